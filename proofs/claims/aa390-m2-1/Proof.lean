import JvmDerived
import JvmDerived.Pilot.@@N@@Statement
import JvmDerived.Pilot.@@N@@Code
set_option linter.unusedVariables false
set_option linter.unusedSimpArgs false
namespace Jvm.Pilot.@@N@@
open Jvm Jvm.ClassFile Sem Op Lib Jvm.Free Jvm.Stand Jvm.LawKit Jvm.RoadKit Bundle Jvm.Pilot.@@N@@.Jvm.D
section OwnKit
variable {p : Program} {l : Launch} {e : Env} {R : Room} {s : State} {m : MethodId} {args : Array Value} {below : List Frame} {meth : Method} {c : Code} {T T' : State} {locs : List Loc} {cells slots : Nat} {P : Outcome → State → Prop} {Q : Option Value → Heap → List Loc → Prop} {cC cS : Nat} {bytes : ByteArray} {ls : Array Slot} {st : List Value} {pc pc' : Nat} {g g' : JFrame} {Z : State} {a0 : Array Value} {h h' : Heap}
/-- from this state and frame the method comes to its end, returns, and Q holds of what it leaves -/
def own_Got (p : Program) (e : Env) (below : List Frame) (P : Outcome → State → Prop) (T : State) (g : JFrame) : Prop :=
  ∃ s₂ o, Steps p.tables e below (T.setTop g) s₂ ∧ s₂.status = .running ∧ Ended s₂ below o ∧ P o s₂
/-- what a contract says of the end -/
def own_End (s : State) (Q : Option Value → Heap → List Loc → Prop) (cC cS : Nat) (o : Outcome) (U : State) : Prop := ∃ v L, o = .returned v ∧ Q v U.heap L ∧ FrameEnd s o U L cC cS
theorem own_go (k : ∀ t, Steps p.tables e below (T'.setTop g') t → Steps p.tables e below (T.setTop g) t) (h : own_Got p e below P T' g') : own_Got p e below P T g := by
  obtain ⟨s2, o, h1, h2⟩ := h; exact ⟨s2, o, k _ h1, h2⟩
theorem own_tr (k : Steps p.tables e below (T.setTop g) (T'.setTop g')) (h : own_Got p e below P T' g') : own_Got p e below P T g := own_go (fun _ q => k.trans q) h
theorem own_cast (q : g = g') (h : own_Got p e below P T g') : own_Got p e below P T g := q ▸ h
theorem own_retV (X : Stand p l e R s m args below meth c T locs cells slots) (hx : p.tables.exec = Jvm.exec) (hby : c.code = bytes) (hlk : meth.locks = false) (hret : meth.sig.returnType = none) (hd : decode bytes pc = .ok (.return_, 1)) (hc : cells ≤ cC) (hs : slots ≤ cS)
    (hq : Q none T.heap locs) : own_Got p e below (own_End s Q cC cS) T (mkF m pc ls []) := by
  obtain ⟨fs, hr, hrun, hended, hW, hsame⟩ := X.leave (v := none) (fun _ => rfl) hlk
  exact ⟨_, _, X.returnOut hx hret (hb hby hd) hr, hrun, hended, _, _, rfl, hq, ⟨_, rfl⟩, hW, hsame.mono hc hs⟩
theorem own_retI (X : Stand p l e R s m args below meth c T locs cells slots) (hx : p.tables.exec = Jvm.exec) (hby : c.code = bytes) (hlk : meth.locks = false) (hret : meth.sig.returnType = some .int) (hd : decode bytes pc = .ok (.ireturn, 1)) (hc : cells ≤ cC) (hs : slots ≤ cS) {z : Int32}
    (hq : Q (some (.int z)) T.heap locs) : own_Got p e below (own_End s Q cC cS) T (mkF m pc ls (.int z :: st)) := by
  obtain ⟨fs, hr, hrun, hended, hW, hsame⟩ := X.leave (v := some (.int z)) (fun h => by rw [hret] at h; cases h) hlk
  exact ⟨_, _, retOut X hx hret rfl (Or.inl ⟨rfl, Or.inl rfl, _, rfl⟩) (hb hby hd) hr, hrun, hended, _, _, rfl, hq, ⟨_, rfl⟩, hW, hsame.mono hc hs⟩
theorem own_retL (X : Stand p l e R s m args below meth c T locs cells slots) (hx : p.tables.exec = Jvm.exec) (hby : c.code = bytes) (hlk : meth.locks = false) (hret : meth.sig.returnType = some .long) (hd : decode bytes pc = .ok (.lreturn, 1)) (hc : cells ≤ cC) (hs : slots ≤ cS) {z : Int64}
    (hq : Q (some (.long z)) T.heap locs) : own_Got p e below (own_End s Q cC cS) T (mkF m pc ls (.long z :: st)) := by
  obtain ⟨fs, hr, hrun, hended, hW, hsame⟩ := X.leave (v := some (.long z)) (fun h => by rw [hret] at h; cases h) hlk
  exact ⟨_, _, retOut X hx hret rfl (Or.inr (Or.inl ⟨rfl, rfl, _, rfl⟩)) (hb hby hd) hr, hrun, hended, _, _, rfl, hq, ⟨_, rfl⟩, hW, hsame.mono hc hs⟩
theorem own_retD (X : Stand p l e R s m args below meth c T locs cells slots) (hx : p.tables.exec = Jvm.exec) (hby : c.code = bytes) (hlk : meth.locks = false) (hret : meth.sig.returnType = some .double) (hd : decode bytes pc = .ok (.dreturn, 1)) (hc : cells ≤ cC) (hs : slots ≤ cS) {z : UInt64}
    (hq : Q (some (.double z)) T.heap locs) : own_Got p e below (own_End s Q cC cS) T (mkF m pc ls (.double z :: st)) := by
  obtain ⟨fs, hr, hrun, hended, hW, hsame⟩ := X.leave (v := some (.double z)) (fun h => by rw [hret] at h; cases h) hlk
  exact ⟨_, _, retOut X hx hret rfl (Or.inr (Or.inr (Or.inl ⟨rfl, rfl, _, rfl⟩))) (hb hby hd) hr, hrun, hended, _, _, rfl, hq, ⟨_, rfl⟩, hW, hsame.mono hc hs⟩
theorem own_retN (X : Stand p l e R s m args below meth c T locs cells slots) (hx : p.tables.exec = Jvm.exec) (hby : c.code = bytes) (hlk : meth.locks = false) {t : FieldType} (hret : meth.sig.returnType = some t) (ht : t = .boolean ∨ t = .byte ∨ t = .char ∨ t = .short) (hd : decode bytes pc = .ok (.ireturn, 1)) (hc : cells ≤ cC) (hs : slots ≤ cS) {z : Int32}
    (hq : Q (some (.int (nar t z))) T.heap locs) : own_Got p e below (own_End s Q cC cS) T (mkF m pc ls (.int z :: st)) := by
  obtain ⟨fs, hr, hrun, hended, hW, hsame⟩ := X.leave (v := some (.int (nar t z))) (fun h => by rw [hret] at h; cases h) hlk
  exact ⟨_, _, retN X hx hret ht (hb hby hd) hr, hrun, hended, _, _, rfl, hq, ⟨_, rfl⟩, hW, hsame.mono hc hs⟩
theorem own_retR (X : Stand p l e R s m args below meth c T locs cells slots) (hx : p.tables.exec = Jvm.exec) (hby : c.code = bytes) (hlk : meth.locks = false) {t : FieldType} (hret : meth.sig.returnType = some t) (ht : t.isReference = true) (hd : decode bytes pc = .ok (.areturn, 1)) (hc : cells ≤ cC) (hs : slots ≤ cS) {w : Value} (hw : w.isRef = true)
    (hq : Q (some w) T.heap locs) : own_Got p e below (own_End s Q cC cS) T (mkF m pc ls (w :: st)) := by
  obtain ⟨fs, hr, hrun, hended, hW, hsame⟩ := X.leave (v := some w) (fun h => by rw [hret] at h; cases h) hlk
  have hn : narrow t w = w := by rcases ref_cases hw with rfl | ⟨a, rfl⟩ <;> cases t <;> first | rfl | (cases ht)
  exact ⟨_, _, retOut X hx hret hn (Or.inr (Or.inr (Or.inr (Or.inr ⟨rfl, ht, hw⟩)))) (hb hby hd) hr, hrun, hended, _, _, rfl, hq, ⟨_, rfl⟩, hW, hsame.mono hc hs⟩
theorem g_iloadN (X : Stand p l e R s m args below meth c T locs cells slots) (hx : p.tables.exec = Jvm.exec) (hby : c.code = bytes) {k : Fin 4} {v : Int32} (hd : decode bytes pc = .ok (.iload_n k, 1)) (hl : ls[k.val]? = some (.val (.int v))) (hp : pc + 1 = pc')
    (k : own_Got p e below P T (mkF m pc' ls (.int v :: st))) : own_Got p e below P T (mkF m pc ls (st)) := by
  subst hp; exact own_go (fun _ q => XS.iloadN X.here hx rfl (hb hby hd) hl q) k
theorem g_iload (X : Stand p l e R s m args below meth c T locs cells slots) (hx : p.tables.exec = Jvm.exec) (hby : c.code = bytes) {k : Nat} {v : Int32} (hd : decode bytes pc = .ok (.iload k, 2)) (hl : ls[k]? = some (.val (.int v))) (hp : pc + 2 = pc')
    (k : own_Got p e below P T (mkF m pc' ls (.int v :: st))) : own_Got p e below P T (mkF m pc ls (st)) := by
  subst hp; exact own_go (fun _ q => XS.iload X.here hx rfl (hb hby hd) hl q) k
theorem g_lloadN (X : Stand p l e R s m args below meth c T locs cells slots) (hx : p.tables.exec = Jvm.exec) (hby : c.code = bytes) {k : Fin 4} {v : Int64} (hd : decode bytes pc = .ok (.lload_n k, 1)) (hl : ls[k.val]? = some (.val (.long v))) (hp : pc + 1 = pc')
    (k : own_Got p e below P T (mkF m pc' ls (.long v :: st))) : own_Got p e below P T (mkF m pc ls (st)) := by
  subst hp; exact own_go (fun _ q => XS.lloadN X.here hx rfl (hb hby hd) hl q) k
theorem g_lload (X : Stand p l e R s m args below meth c T locs cells slots) (hx : p.tables.exec = Jvm.exec) (hby : c.code = bytes) {k : Nat} {v : Int64} (hd : decode bytes pc = .ok (.lload k, 2)) (hl : ls[k]? = some (.val (.long v))) (hp : pc + 2 = pc')
    (k : own_Got p e below P T (mkF m pc' ls (.long v :: st))) : own_Got p e below P T (mkF m pc ls (st)) := by
  subst hp; exact own_go (fun _ q => XS.lload X.here hx rfl (hb hby hd) hl q) k
theorem g_dloadN (X : Stand p l e R s m args below meth c T locs cells slots) (hx : p.tables.exec = Jvm.exec) (hby : c.code = bytes) {k : Fin 4} {v : UInt64} (hd : decode bytes pc = .ok (.dload_n k, 1)) (hl : ls[k.val]? = some (.val (.double v))) (hp : pc + 1 = pc')
    (k : own_Got p e below P T (mkF m pc' ls (.double v :: st))) : own_Got p e below P T (mkF m pc ls (st)) := by
  subst hp; exact own_go (fun _ q => XS.dloadN X.here hx rfl (hb hby hd) hl q) k
theorem g_dload (X : Stand p l e R s m args below meth c T locs cells slots) (hx : p.tables.exec = Jvm.exec) (hby : c.code = bytes) {k : Nat} {v : UInt64} (hd : decode bytes pc = .ok (.dload k, 2)) (hl : ls[k]? = some (.val (.double v))) (hp : pc + 2 = pc')
    (k : own_Got p e below P T (mkF m pc' ls (.double v :: st))) : own_Got p e below P T (mkF m pc ls (st)) := by
  subst hp; exact own_go (fun _ q => XS.dload X.here hx rfl (hb hby hd) hl q) k
theorem g_aloadN (X : Stand p l e R s m args below meth c T locs cells slots) (hx : p.tables.exec = Jvm.exec) (hby : c.code = bytes) {k : Fin 4} {v : Value} (hd : decode bytes pc = .ok (.aload_n k, 1)) (hl : ls[k.val]? = some (.val v)) (hv : v.isRef = true) (hp : pc + 1 = pc')
    (k : own_Got p e below P T (mkF m pc' ls (v :: st))) : own_Got p e below P T (mkF m pc ls (st)) := by
  subst hp; exact own_go (fun _ q => XS.aloadN X.here hx rfl (hb hby hd) hl hv q) k
theorem g_aload (X : Stand p l e R s m args below meth c T locs cells slots) (hx : p.tables.exec = Jvm.exec) (hby : c.code = bytes) {k : Nat} {v : Value} (hd : decode bytes pc = .ok (.aload k, 2)) (hl : ls[k]? = some (.val v)) (hv : v.isRef = true) (hp : pc + 2 = pc')
    (k : own_Got p e below P T (mkF m pc' ls (v :: st))) : own_Got p e below P T (mkF m pc ls (st)) := by
  subst hp; exact own_go (fun _ q => XS.aload X.here hx rfl (hb hby hd) hl hv q) k
theorem g_istoreN (X : Stand p l e R s m args below meth c T locs cells slots) (hx : p.tables.exec = Jvm.exec) (hby : c.code = bytes) {k : Fin 4} {x : Int32} (ls' : Array Slot) (hd : decode bytes pc = .ok (.istore_n k, 1)) (hl : storeLocals ls k.val (.int x) = some ls') (hp : pc + 1 = pc')
    (k : own_Got p e below P T (mkF m pc' ls' (st))) : own_Got p e below P T (mkF m pc ls (.int x :: st)) := by
  subst hp; exact own_go (fun _ q => XS.istoreN X.here hx rfl (hb hby hd) rfl hl q) k
theorem g_istore (X : Stand p l e R s m args below meth c T locs cells slots) (hx : p.tables.exec = Jvm.exec) (hby : c.code = bytes) {k : Nat} {x : Int32} (ls' : Array Slot) (hd : decode bytes pc = .ok (.istore k, 2)) (hl : storeLocals ls k (.int x) = some ls') (hp : pc + 2 = pc')
    (k : own_Got p e below P T (mkF m pc' ls' (st))) : own_Got p e below P T (mkF m pc ls (.int x :: st)) := by
  subst hp; exact own_go (fun _ q => XS.istore X.here hx rfl (hb hby hd) rfl hl q) k
theorem g_lstoreN (X : Stand p l e R s m args below meth c T locs cells slots) (hx : p.tables.exec = Jvm.exec) (hby : c.code = bytes) {k : Fin 4} {x : Int64} (ls' : Array Slot) (hd : decode bytes pc = .ok (.lstore_n k, 1)) (hl : storeLocals ls k.val (.long x) = some ls') (hp : pc + 1 = pc')
    (k : own_Got p e below P T (mkF m pc' ls' (st))) : own_Got p e below P T (mkF m pc ls (.long x :: st)) := by
  subst hp; exact own_go (fun _ q => XS.lstoreN X.here hx rfl (hb hby hd) rfl hl q) k
theorem g_lstore (X : Stand p l e R s m args below meth c T locs cells slots) (hx : p.tables.exec = Jvm.exec) (hby : c.code = bytes) {k : Nat} {x : Int64} (ls' : Array Slot) (hd : decode bytes pc = .ok (.lstore k, 2)) (hl : storeLocals ls k (.long x) = some ls') (hp : pc + 2 = pc')
    (k : own_Got p e below P T (mkF m pc' ls' (st))) : own_Got p e below P T (mkF m pc ls (.long x :: st)) := by
  subst hp; exact own_go (fun _ q => XS.lstore X.here hx rfl (hb hby hd) rfl hl q) k
theorem g_dstoreN (X : Stand p l e R s m args below meth c T locs cells slots) (hx : p.tables.exec = Jvm.exec) (hby : c.code = bytes) {k : Fin 4} {x : UInt64} (ls' : Array Slot) (hd : decode bytes pc = .ok (.dstore_n k, 1)) (hl : storeLocals ls k.val (.double x) = some ls') (hp : pc + 1 = pc')
    (k : own_Got p e below P T (mkF m pc' ls' (st))) : own_Got p e below P T (mkF m pc ls (.double x :: st)) := by
  subst hp; exact own_go (fun _ q => XS.dstoreN X.here hx rfl (hb hby hd) rfl hl q) k
theorem g_dstore (X : Stand p l e R s m args below meth c T locs cells slots) (hx : p.tables.exec = Jvm.exec) (hby : c.code = bytes) {k : Nat} {x : UInt64} (ls' : Array Slot) (hd : decode bytes pc = .ok (.dstore k, 2)) (hl : storeLocals ls k (.double x) = some ls') (hp : pc + 2 = pc')
    (k : own_Got p e below P T (mkF m pc' ls' (st))) : own_Got p e below P T (mkF m pc ls (.double x :: st)) := by
  subst hp; exact own_go (fun _ q => XS.dstore X.here hx rfl (hb hby hd) rfl hl q) k
theorem g_astoreN (X : Stand p l e R s m args below meth c T locs cells slots) (hx : p.tables.exec = Jvm.exec) (hby : c.code = bytes) {k : Fin 4} {x : Value} (ls' : Array Slot) (hd : decode bytes pc = .ok (.astore_n k, 1)) (hv : x.isRef = true) (hl : storeLocals ls k.val x = some ls') (hp : pc + 1 = pc')
    (k : own_Got p e below P T (mkF m pc' ls' (st))) : own_Got p e below P T (mkF m pc ls (x :: st)) := by
  subst hp; exact own_go (fun _ q => XS.astoreN X.here hx rfl (hb hby hd) rfl hv hl q) k
theorem g_astore (X : Stand p l e R s m args below meth c T locs cells slots) (hx : p.tables.exec = Jvm.exec) (hby : c.code = bytes) {k : Nat} {x : Value} (ls' : Array Slot) (hd : decode bytes pc = .ok (.astore k, 2)) (hv : x.isRef = true) (hl : storeLocals ls k x = some ls') (hp : pc + 2 = pc')
    (k : own_Got p e below P T (mkF m pc' ls' (st))) : own_Got p e below P T (mkF m pc ls (x :: st)) := by
  subst hp; exact own_go (fun _ q => XS.astore X.here hx rfl (hb hby hd) rfl hv hl q) k
theorem g_iconst (X : Stand p l e R s m args below meth c T locs cells slots) (hx : p.tables.exec = Jvm.exec) (hby : c.code = bytes) {i : Int} (z : Int32) (hd : decode bytes pc = .ok (.iconst i, 1)) (hz : Int32.ofInt i = z) (hp : pc + 1 = pc')
    (k : own_Got p e below P T (mkF m pc' ls (.int z :: st))) : own_Got p e below P T (mkF m pc ls (st)) := by
  subst hp; subst hz; exact own_go (fun _ q => XS.iconst X.here hx rfl (hb hby hd) q) k
theorem g_bipush (X : Stand p l e R s m args below meth c T locs cells slots) (hx : p.tables.exec = Jvm.exec) (hby : c.code = bytes) {i : Int} (z : Int32) (hd : decode bytes pc = .ok (.bipush i, 2)) (hz : (Int8.ofInt i).toInt32 = z) (hp : pc + 2 = pc')
    (k : own_Got p e below P T (mkF m pc' ls (.int z :: st))) : own_Got p e below P T (mkF m pc ls (st)) := by
  subst hp; subst hz; exact own_go (fun _ q => XS.bipush X.here hx rfl (hb hby hd) q) k
theorem g_sipush (X : Stand p l e R s m args below meth c T locs cells slots) (hx : p.tables.exec = Jvm.exec) (hby : c.code = bytes) {i : Int} (z : Int32) (hd : decode bytes pc = .ok (.sipush i, 3)) (hz : (Int16.ofInt i).toInt32 = z) (hp : pc + 3 = pc')
    (k : own_Got p e below P T (mkF m pc' ls (.int z :: st))) : own_Got p e below P T (mkF m pc ls (st)) := by
  subst hp; subst hz; exact own_go (fun _ q => XS.sipush X.here hx rfl (hb hby hd) q) k
theorem g_lconst (X : Stand p l e R s m args below meth c T locs cells slots) (hx : p.tables.exec = Jvm.exec) (hby : c.code = bytes) {i : Fin 2} (z : Int64) (hd : decode bytes pc = .ok (.lconst i, 1)) (hz : Int64.ofNat i.val = z) (hp : pc + 1 = pc')
    (k : own_Got p e below P T (mkF m pc' ls (.long z :: st))) : own_Got p e below P T (mkF m pc ls (st)) := by
  subst hp; subst hz; exact own_go (fun _ q => XS.lconst X.here hx rfl (hb hby hd) q) k
theorem g_anull (X : Stand p l e R s m args below meth c T locs cells slots) (hx : p.tables.exec = Jvm.exec) (hby : c.code = bytes)  (hd : decode bytes pc = .ok (.aconst_null, 1))  (hp : pc + 1 = pc')
    (k : own_Got p e below P T (mkF m pc' ls (.null :: st))) : own_Got p e below P T (mkF m pc ls (st)) := by
  subst hp; exact own_go (fun _ q => XS.aconstNull X.here hx rfl (hb hby hd) q) k
theorem g_iadd (X : Stand p l e R s m args below meth c T locs cells slots) (hx : p.tables.exec = Jvm.exec) (hby : c.code = bytes) {x y : Int32} (hd : decode bytes pc = .ok (.iadd, 1))  (hp : pc + 1 = pc')
    (k : own_Got p e below P T (mkF m pc' ls (.int (x + y) :: st))) : own_Got p e below P T (mkF m pc ls (.int y :: .int x :: st)) := by
  subst hp; exact own_go (fun _ q => XS.iadd X.here hx rfl (hb hby hd) rfl q) k
theorem g_isub (X : Stand p l e R s m args below meth c T locs cells slots) (hx : p.tables.exec = Jvm.exec) (hby : c.code = bytes) {x y : Int32} (hd : decode bytes pc = .ok (.isub, 1))  (hp : pc + 1 = pc')
    (k : own_Got p e below P T (mkF m pc' ls (.int (x - y) :: st))) : own_Got p e below P T (mkF m pc ls (.int y :: .int x :: st)) := by
  subst hp; exact own_go (fun _ q => XS.isub X.here hx rfl (hb hby hd) rfl q) k
theorem g_iand (X : Stand p l e R s m args below meth c T locs cells slots) (hx : p.tables.exec = Jvm.exec) (hby : c.code = bytes) {x y : Int32} (hd : decode bytes pc = .ok (.iand, 1))  (hp : pc + 1 = pc')
    (k : own_Got p e below P T (mkF m pc' ls (.int (x &&& y) :: st))) : own_Got p e below P T (mkF m pc ls (.int y :: .int x :: st)) := by
  subst hp; exact own_go (fun _ q => XS.iand X.here hx rfl (hb hby hd) rfl q) k
theorem g_ior (X : Stand p l e R s m args below meth c T locs cells slots) (hx : p.tables.exec = Jvm.exec) (hby : c.code = bytes) {x y : Int32} (hd : decode bytes pc = .ok (.ior, 1))  (hp : pc + 1 = pc')
    (k : own_Got p e below P T (mkF m pc' ls (.int (x ||| y) :: st))) : own_Got p e below P T (mkF m pc ls (.int y :: .int x :: st)) := by
  subst hp; exact own_go (fun _ q => XS.ior X.here hx rfl (hb hby hd) rfl q) k
theorem g_ixor (X : Stand p l e R s m args below meth c T locs cells slots) (hx : p.tables.exec = Jvm.exec) (hby : c.code = bytes) {x y : Int32} (hd : decode bytes pc = .ok (.ixor, 1))  (hp : pc + 1 = pc')
    (k : own_Got p e below P T (mkF m pc' ls (.int (x ^^^ y) :: st))) : own_Got p e below P T (mkF m pc ls (.int y :: .int x :: st)) := by
  subst hp; exact own_go (fun _ q => XS.ixor X.here hx rfl (hb hby hd) rfl q) k
theorem g_imul (X : Stand p l e R s m args below meth c T locs cells slots) (hx : p.tables.exec = Jvm.exec) (hby : c.code = bytes) {x y : Int32} (hd : decode bytes pc = .ok (.imul, 1))  (hp : pc + 1 = pc')
    (k : own_Got p e below P T (mkF m pc' ls (.int (x * y) :: st))) : own_Got p e below P T (mkF m pc ls (.int y :: .int x :: st)) := by
  subst hp; exact own_go (fun _ q => XS.imul X.here hx rfl (hb hby hd) rfl q) k
theorem g_ladd (X : Stand p l e R s m args below meth c T locs cells slots) (hx : p.tables.exec = Jvm.exec) (hby : c.code = bytes) {x y : Int64} (hd : decode bytes pc = .ok (.ladd, 1))  (hp : pc + 1 = pc')
    (k : own_Got p e below P T (mkF m pc' ls (.long (x + y) :: st))) : own_Got p e below P T (mkF m pc ls (.long y :: .long x :: st)) := by
  subst hp; exact own_go (fun _ q => XS.ladd X.here hx rfl (hb hby hd) rfl q) k
theorem g_lsub (X : Stand p l e R s m args below meth c T locs cells slots) (hx : p.tables.exec = Jvm.exec) (hby : c.code = bytes) {x y : Int64} (hd : decode bytes pc = .ok (.lsub, 1))  (hp : pc + 1 = pc')
    (k : own_Got p e below P T (mkF m pc' ls (.long (x - y) :: st))) : own_Got p e below P T (mkF m pc ls (.long y :: .long x :: st)) := by
  subst hp; exact own_go (fun _ q => XS.lsub X.here hx rfl (hb hby hd) rfl q) k
theorem g_land (X : Stand p l e R s m args below meth c T locs cells slots) (hx : p.tables.exec = Jvm.exec) (hby : c.code = bytes) {x y : Int64} (hd : decode bytes pc = .ok (.land, 1))  (hp : pc + 1 = pc')
    (k : own_Got p e below P T (mkF m pc' ls (.long (x &&& y) :: st))) : own_Got p e below P T (mkF m pc ls (.long y :: .long x :: st)) := by
  subst hp; exact own_go (fun _ q => XS.land X.here hx rfl (hb hby hd) rfl q) k
theorem g_lor (X : Stand p l e R s m args below meth c T locs cells slots) (hx : p.tables.exec = Jvm.exec) (hby : c.code = bytes) {x y : Int64} (hd : decode bytes pc = .ok (.lor, 1))  (hp : pc + 1 = pc')
    (k : own_Got p e below P T (mkF m pc' ls (.long (x ||| y) :: st))) : own_Got p e below P T (mkF m pc ls (.long y :: .long x :: st)) := by
  subst hp; exact own_go (fun _ q => XS.lor X.here hx rfl (hb hby hd) rfl q) k
theorem g_lxor (X : Stand p l e R s m args below meth c T locs cells slots) (hx : p.tables.exec = Jvm.exec) (hby : c.code = bytes) {x y : Int64} (hd : decode bytes pc = .ok (.lxor, 1))  (hp : pc + 1 = pc')
    (k : own_Got p e below P T (mkF m pc' ls (.long (x ^^^ y) :: st))) : own_Got p e below P T (mkF m pc ls (.long y :: .long x :: st)) := by
  subst hp; exact own_go (fun _ q => XS.lxor X.here hx rfl (hb hby hd) rfl q) k
theorem g_lmul (X : Stand p l e R s m args below meth c T locs cells slots) (hx : p.tables.exec = Jvm.exec) (hby : c.code = bytes) {x y : Int64} (hd : decode bytes pc = .ok (.lmul, 1))  (hp : pc + 1 = pc')
    (k : own_Got p e below P T (mkF m pc' ls (.long (x * y) :: st))) : own_Got p e below P T (mkF m pc ls (.long y :: .long x :: st)) := by
  subst hp; exact own_go (fun _ q => XS.lmul X.here hx rfl (hb hby hd) rfl q) k
theorem g_idiv (X : Stand p l e R s m args below meth c T locs cells slots) (hx : p.tables.exec = Jvm.exec) (hby : c.code = bytes) {x y : Int32} (hd : decode bytes pc = .ok (.idiv, 1)) (hy : y ≠ 0) (hp : pc + 1 = pc')
    (k : own_Got p e below P T (mkF m pc' ls (.int (x / y) :: st))) : own_Got p e below P T (mkF m pc ls (.int y :: .int x :: st)) := by
  subst hp; exact own_go (fun _ q => XS.idiv X.here hx rfl (hb hby hd) rfl hy q) k
theorem g_irem (X : Stand p l e R s m args below meth c T locs cells slots) (hx : p.tables.exec = Jvm.exec) (hby : c.code = bytes) {x y : Int32} (hd : decode bytes pc = .ok (.irem, 1)) (hy : y ≠ 0) (hp : pc + 1 = pc')
    (k : own_Got p e below P T (mkF m pc' ls (.int (x % y) :: st))) : own_Got p e below P T (mkF m pc ls (.int y :: .int x :: st)) := by
  subst hp; exact own_go (fun _ q => iremM X hx rfl (hb hby hd) rfl hy q) k
theorem g_ishl (X : Stand p l e R s m args below meth c T locs cells slots) (hx : p.tables.exec = Jvm.exec) (hby : c.code = bytes) {x y : Int32} (hd : decode bytes pc = .ok (.ishl, 1))  (hp : pc + 1 = pc')
    (k : own_Got p e below P T (mkF m pc' ls (.int (x <<< (y &&& 31)) :: st))) : own_Got p e below P T (mkF m pc ls (.int y :: .int x :: st)) := by
  subst hp; exact own_go (fun _ q => XS.ishl X.here hx rfl (hb hby hd) rfl q) k
theorem g_ishr (X : Stand p l e R s m args below meth c T locs cells slots) (hx : p.tables.exec = Jvm.exec) (hby : c.code = bytes) {x y : Int32} (hd : decode bytes pc = .ok (.ishr, 1))  (hp : pc + 1 = pc')
    (k : own_Got p e below P T (mkF m pc' ls (.int (x >>> (y &&& 31)) :: st))) : own_Got p e below P T (mkF m pc ls (.int y :: .int x :: st)) := by
  subst hp; exact own_go (fun _ q => XS.ishr X.here hx rfl (hb hby hd) rfl q) k
theorem g_iushr (X : Stand p l e R s m args below meth c T locs cells slots) (hx : p.tables.exec = Jvm.exec) (hby : c.code = bytes) {x y : Int32} (hd : decode bytes pc = .ok (.iushr, 1))  (hp : pc + 1 = pc')
    (k : own_Got p e below P T (mkF m pc' ls (.int ((x.toUInt32 >>> (y &&& 31).toUInt32).toInt32) :: st))) : own_Got p e below P T (mkF m pc ls (.int y :: .int x :: st)) := by
  subst hp; exact own_go (fun _ q => XS.iushr X.here hx rfl (hb hby hd) rfl q) k
theorem g_ineg (X : Stand p l e R s m args below meth c T locs cells slots) (hx : p.tables.exec = Jvm.exec) (hby : c.code = bytes) {x : Int32} (hd : decode bytes pc = .ok (.ineg, 1))  (hp : pc + 1 = pc')
    (k : own_Got p e below P T (mkF m pc' ls (.int (-x) :: st))) : own_Got p e below P T (mkF m pc ls (.int x :: st)) := by
  subst hp; exact own_go (fun _ q => XS.ineg X.here hx rfl (hb hby hd) rfl q) k
theorem g_i2b (X : Stand p l e R s m args below meth c T locs cells slots) (hx : p.tables.exec = Jvm.exec) (hby : c.code = bytes) {x : Int32} (hd : decode bytes pc = .ok (.i2b, 1))  (hp : pc + 1 = pc')
    (k : own_Got p e below P T (mkF m pc' ls (.int x.toInt8.toInt32 :: st))) : own_Got p e below P T (mkF m pc ls (.int x :: st)) := by
  subst hp; exact own_go (fun _ q => XS.i2b X.here hx rfl (hb hby hd) rfl q) k
theorem g_i2s (X : Stand p l e R s m args below meth c T locs cells slots) (hx : p.tables.exec = Jvm.exec) (hby : c.code = bytes) {x : Int32} (hd : decode bytes pc = .ok (.i2s, 1))  (hp : pc + 1 = pc')
    (k : own_Got p e below P T (mkF m pc' ls (.int x.toInt16.toInt32 :: st))) : own_Got p e below P T (mkF m pc ls (.int x :: st)) := by
  subst hp; exact own_go (fun _ q => XS.i2s X.here hx rfl (hb hby hd) rfl q) k
theorem g_i2c (X : Stand p l e R s m args below meth c T locs cells slots) (hx : p.tables.exec = Jvm.exec) (hby : c.code = bytes) {x : Int32} (hd : decode bytes pc = .ok (.i2c, 1))  (hp : pc + 1 = pc')
    (k : own_Got p e below P T (mkF m pc' ls (.int x.toUInt32.toUInt16.toUInt32.toInt32 :: st))) : own_Got p e below P T (mkF m pc ls (.int x :: st)) := by
  subst hp; exact own_go (fun _ q => XS.i2c X.here hx rfl (hb hby hd) rfl q) k
theorem g_i2l (X : Stand p l e R s m args below meth c T locs cells slots) (hx : p.tables.exec = Jvm.exec) (hby : c.code = bytes) {x : Int32} (hd : decode bytes pc = .ok (.i2l, 1))  (hp : pc + 1 = pc')
    (k : own_Got p e below P T (mkF m pc' ls (.long x.toInt64 :: st))) : own_Got p e below P T (mkF m pc ls (.int x :: st)) := by
  subst hp; exact own_go (fun _ q => XS.i2l X.here hx rfl (hb hby hd) rfl q) k
theorem g_lcmp (X : Stand p l e R s m args below meth c T locs cells slots) (hx : p.tables.exec = Jvm.exec) (hby : c.code = bytes) {x y : Int64} (hd : decode bytes pc = .ok (.lcmp, 1))  (hp : pc + 1 = pc')
    (k : own_Got p e below P T (mkF m pc' ls (.int (lcmpW x y) :: st))) : own_Got p e below P T (mkF m pc ls (.long y :: .long x :: st)) := by
  subst hp; exact own_go (fun _ q => XS.lcmp X.here hx rfl (hb hby hd) rfl q) k
theorem g_iinc (X : Stand p l e R s m args below meth c T locs cells slots) (hx : p.tables.exec = Jvm.exec) (hby : c.code = bytes) {k : Nat} {cst : Int} {x : Int32} (ls' : Array Slot) (hd : decode bytes pc = .ok (.iinc k cst, 3)) (hl : ls[k]? = some (.val (.int x))) (hl' : storeLocals ls k (.int (x + Int32.ofInt cst)) = some ls') (hp : pc + 3 = pc')
    (k : own_Got p e below P T (mkF m pc' ls' (st))) : own_Got p e below P T (mkF m pc ls (st)) := by
  subst hp; exact own_go (fun _ q => XS.iinc X.here hx rfl (hb hby hd) hl hl' q) k
theorem g_dup (X : Stand p l e R s m args below meth c T locs cells slots) (hx : p.tables.exec = Jvm.exec) (hby : c.code = bytes) {x : Value} (hd : decode bytes pc = .ok (.dup, 1)) (hc : x.category = 1) (hp : pc + 1 = pc')
    (k : own_Got p e below P T (mkF m pc' ls (x :: x :: st))) : own_Got p e below P T (mkF m pc ls (x :: st)) := by
  subst hp; exact own_go (fun _ q => XS.dup X.here hx rfl (hb hby hd) rfl hc q) k
theorem g_dupX1 (X : Stand p l e R s m args below meth c T locs cells slots) (hx : p.tables.exec = Jvm.exec) (hby : c.code = bytes) {x y : Value} (hd : decode bytes pc = .ok (.dup_x1, 1)) (hc : x.category = 1) (hc2 : y.category = 1) (hp : pc + 1 = pc')
    (k : own_Got p e below P T (mkF m pc' ls (x :: y :: x :: st))) : own_Got p e below P T (mkF m pc ls (x :: y :: st)) := by
  subst hp; exact own_go (fun _ q => XS.dupX1 X.here hx rfl (hb hby hd) rfl hc hc2 q) k
theorem g_pop (X : Stand p l e R s m args below meth c T locs cells slots) (hx : p.tables.exec = Jvm.exec) (hby : c.code = bytes) {x : Value} (hd : decode bytes pc = .ok (.pop, 1)) (hc : x.category = 1) (hp : pc + 1 = pc')
    (k : own_Got p e below P T (mkF m pc' ls (st))) : own_Got p e below P T (mkF m pc ls (x :: st)) := by
  subst hp; exact own_go (fun _ q => XS.pop X.here hx rfl (hb hby hd) rfl hc q) k
theorem g_dup2 (X : Stand p l e R s m args below meth c T locs cells slots) (hx : p.tables.exec = Jvm.exec) (hby : c.code = bytes) {x y : Value} (hd : decode bytes pc = .ok (.dup2, 1)) (hc : x.category = 1) (hc2 : y.category = 1) (hp : pc + 1 = pc')
    (k : own_Got p e below P T (mkF m pc' ls (x :: y :: x :: y :: st))) : own_Got p e below P T (mkF m pc ls (x :: y :: st)) := by
  subst hp; exact own_go (fun _ q => XT.dup2 X.here hx rfl (hb hby hd) rfl hc hc2 q) k
theorem g_goto (X : Stand p l e R s m args below meth c T locs cells slots) (hx : p.tables.exec = Jvm.exec) (hby : c.code = bytes) {o : Int} (hd : decode bytes pc = .ok (.goto o, 3))  (ho : 0 ≤ (pc : Int) + o) (hp : ((pc : Int) + o).toNat = pc')
    (k : own_Got p e below P T (mkF m pc' ls (st))) : own_Got p e below P T (mkF m pc ls (st)) := by
  exact own_go (fun _ q => XS.goto X.here hx rfl rfl (hb hby hd) ho hp q) k
theorem g_ifT (X : Stand p l e R s m args below meth c T locs cells slots) (hx : p.tables.exec = Jvm.exec) (hby : c.code = bytes) {cd : ClassFile.Cond} {x : Int32} {o : Int} (hd : decode bytes pc = .ok (.ifCond cd o, 3)) (hc : ifCond.holds cd x = true) (ho : 0 ≤ (pc : Int) + o) (hp : ((pc : Int) + o).toNat = pc')
    (k : own_Got p e below P T (mkF m pc' ls (st))) : own_Got p e below P T (mkF m pc ls (.int x :: st)) := by
  exact own_go (fun _ q => XS.ifYes X.here hx rfl rfl (hb hby hd) rfl hc ho hp q) k
theorem g_icT (X : Stand p l e R s m args below meth c T locs cells slots) (hx : p.tables.exec = Jvm.exec) (hby : c.code = bytes) {cd : ClassFile.Cond} {x y : Int32} {o : Int} (hd : decode bytes pc = .ok (.if_icmp cd o, 3)) (hc : if_icmp.holds cd x y = true) (ho : 0 ≤ (pc : Int) + o) (hp : ((pc : Int) + o).toNat = pc')
    (k : own_Got p e below P T (mkF m pc' ls (st))) : own_Got p e below P T (mkF m pc ls (.int y :: .int x :: st)) := by
  exact own_go (fun _ q => XS.icmpYes X.here hx rfl rfl (hb hby hd) rfl hc ho hp q) k
theorem g_inT (X : Stand p l e R s m args below meth c T locs cells slots) (hx : p.tables.exec = Jvm.exec) (hby : c.code = bytes) {o : Int} (hd : decode bytes pc = .ok (.ifnull o, 3))  (ho : 0 ≤ (pc : Int) + o) (hp : ((pc : Int) + o).toNat = pc')
    (k : own_Got p e below P T (mkF m pc' ls (st))) : own_Got p e below P T (mkF m pc ls (.null :: st)) := by
  exact own_go (fun _ q => XS.ifnullYes X.here hx rfl rfl (hb hby hd) rfl ho hp q) k
theorem g_innT (X : Stand p l e R s m args below meth c T locs cells slots) (hx : p.tables.exec = Jvm.exec) (hby : c.code = bytes) {b : Addr} {o : Int} (hd : decode bytes pc = .ok (.ifnonnull o, 3))  (ho : 0 ≤ (pc : Int) + o) (hp : ((pc : Int) + o).toNat = pc')
    (k : own_Got p e below P T (mkF m pc' ls (st))) : own_Got p e below P T (mkF m pc ls (.ref b :: st)) := by
  exact own_go (fun _ q => XS.ifnonnullYes X.here hx rfl rfl (hb hby hd) rfl ho hp q) k
theorem g_ifF (X : Stand p l e R s m args below meth c T locs cells slots) (hx : p.tables.exec = Jvm.exec) (hby : c.code = bytes) {cd : ClassFile.Cond} {o : Int} {x : Int32} (hd : decode bytes pc = .ok (.ifCond cd o, 3)) (hc : ifCond.holds cd x = false) (hp : pc + 3 = pc')
    (k : own_Got p e below P T (mkF m pc' ls (st))) : own_Got p e below P T (mkF m pc ls (.int x :: st)) := by
  subst hp; exact own_go (fun _ q => XS.ifNo X.here hx rfl (hb hby hd) rfl hc q) k
theorem g_icF (X : Stand p l e R s m args below meth c T locs cells slots) (hx : p.tables.exec = Jvm.exec) (hby : c.code = bytes) {cd : ClassFile.Cond} {o : Int} {x y : Int32} (hd : decode bytes pc = .ok (.if_icmp cd o, 3)) (hc : if_icmp.holds cd x y = false) (hp : pc + 3 = pc')
    (k : own_Got p e below P T (mkF m pc' ls (st))) : own_Got p e below P T (mkF m pc ls (.int y :: .int x :: st)) := by
  subst hp; exact own_go (fun _ q => XS.icmpNo X.here hx rfl (hb hby hd) rfl hc q) k
theorem g_inF (X : Stand p l e R s m args below meth c T locs cells slots) (hx : p.tables.exec = Jvm.exec) (hby : c.code = bytes) {o : Int} {b : Addr} (hd : decode bytes pc = .ok (.ifnull o, 3))  (hp : pc + 3 = pc')
    (k : own_Got p e below P T (mkF m pc' ls (st))) : own_Got p e below P T (mkF m pc ls (.ref b :: st)) := by
  subst hp; exact own_go (fun _ q => XS.ifnullNo X.here hx rfl (hb hby hd) rfl q) k
theorem g_innF (X : Stand p l e R s m args below meth c T locs cells slots) (hx : p.tables.exec = Jvm.exec) (hby : c.code = bytes) {o : Int} (hd : decode bytes pc = .ok (.ifnonnull o, 3))  (hp : pc + 3 = pc')
    (k : own_Got p e below P T (mkF m pc' ls (st))) : own_Got p e below P T (mkF m pc ls (.null :: st)) := by
  subst hp; exact own_go (fun _ q => XS.ifnonnullNo X.here hx rfl (hb hby hd) rfl q) k
theorem g_acmp (X : Stand p l e R s m args below meth c T locs cells slots) (hx : p.tables.exec = Jvm.exec) (hby : c.code = bytes) {cd : ACond} {x y : Value} {o : Int} (same : Bool) (hd : decode bytes pc = .ok (.if_acmp cd o, 3)) (h1 : x.isRef = true) (h2 : y.isRef = true) (hq : decide (x = y) = same) (ho : 0 ≤ (pc : Int) + o) (hp : pc' = if acV cd same = true then ((pc : Int) + o).toNat else pc + 3)
    (k : own_Got p e below P T (mkF m pc' ls st)) : own_Got p e below P T (mkF m pc ls (y :: x :: st)) :=
  own_go (fun _ q => Jvm.RoadKit.acmp X hx rfl h1 h2 rfl (hb hby hd) rfl hq ho hp q) k
theorem g_ldcI (X : Stand p l e R s m args below meth c T locs cells slots) (hx : p.tables.exec = Jvm.exec) (hby : c.code = bytes) (hZ : Z.Warmed39 s.vm) {own : String} {index : Nat} {v : Int32} (hown : s.vm.findClass own = some m.cls) (w : (Cond.constant own index v).before a0 Z = true) (hd : decode bytes pc = .ok (.ldc index, 2)) (hp : pc + 2 = pc')
    (k : own_Got p e below P T (mkF m pc' ls (.int v :: st))) : own_Got p e below P T (mkF m pc ls st) := by
  subst hp; exact own_go (X.ldcInt hx hown (mvT hZ w) rfl (hb hby hd)) k
theorem g_ldc2D (X : Stand p l e R s m args below meth c T locs cells slots) (hx : p.tables.exec = Jvm.exec) (hby : c.code = bytes) (hZ : Z.Warmed39 s.vm) {own : String} {index : Nat} {v : UInt64} (hown : s.vm.findClass own = some m.cls) (w : (Cond.constantDouble own index v).before a0 Z = true) (hd : decode bytes pc = .ok (.ldc2_w index, 3)) (hp : pc + 3 = pc')
    (k : own_Got p e below P T (mkF m pc' ls (.double v :: st))) : own_Got p e below P T (mkF m pc ls st) := by
  subst hp; exact own_go (X.ldc2DoubleC hx hown (mvT hZ w) rfl (hb hby hd)) k
theorem g_alen (X : Stand p l e R s m args below meth c T locs cells slots) (hx : p.tables.exec = Jvm.exec) (hby : c.code = bytes) (hZ : Z.Warmed39 s.vm) (eT : T.heap = h) {a : Addr} {kk : ClassId} {ty : FieldType} {n : Int32} {vs : List Value} {d : Value} (F : Arv Z h a kk ty n vs d) (hd : decode bytes pc = .ok (.arraylength, 1)) (hp : pc + 1 = pc')
    (k : own_Got p e below P T (mkF m pc' ls (.int n :: st))) : own_Got p e below P T (mkF m pc ls (.ref a :: st)) := by
  subst hp
  obtain ⟨cl, Ar, -, S, N, -, -⟩ := F
  refine own_go (fun t q => X.arraylength hx (by rw [eT]; exact Ar.1) (State.isArrayOf_alike hZ.alike Ar.2.1) (g := mkF m pc ls (.ref a :: st)) rfl rfl (hb hby hd) t q) ?_
  rw [len_of S N]; exact k
theorem g_iaload (X : Stand p l e R s m args below meth c T locs cells slots) (hx : p.tables.exec = Jvm.exec) (hby : c.code = bytes) (hZ : Z.Warmed39 s.vm) (eT : T.heap = h) {a : Addr} {kk : ClassId} {n : Int32} {vs : List Value} {d v : Value} {j : Int32} (F : Arv Z h a kk .int n vs d) (hj : ¬ j < 0 ∧ j < n) (hv : vs.getD j.toNatClampNeg d = v) (hd : decode bytes pc = .ok (.iaload, 1)) (hp : pc + 1 = pc')
    (k : own_Got p e below P T (mkF m pc' ls (v :: st))) : own_Got p e below P T (mkF m pc ls (.int j :: .ref a :: st)) := by
  subst hp
  obtain ⟨cl, Ar, -, S, N, H, -⟩ := F
  exact own_go (fun t q => X.iaload hx (by rw [eT]; exact Ar.1) (State.isArrayOf_alike hZ.alike Ar.2.1) Ar.2.2 (inb_of S hj) (H.at (inb_of S hj) hv) (g := mkF m pc ls (.int j :: .ref a :: st)) rfl rfl (hb hby hd) t q) k
theorem g_caload (X : Stand p l e R s m args below meth c T locs cells slots) (hx : p.tables.exec = Jvm.exec) (hby : c.code = bytes) (hZ : Z.Warmed39 s.vm) (eT : T.heap = h) {a : Addr} {kk : ClassId} {n : Int32} {vs : List Value} {d v : Value} {j : Int32} (F : Arv Z h a kk .char n vs d) (hj : ¬ j < 0 ∧ j < n) (hv : vs.getD j.toNatClampNeg d = v) (hd : decode bytes pc = .ok (.caload, 1)) (hp : pc + 1 = pc')
    (k : own_Got p e below P T (mkF m pc' ls (v :: st))) : own_Got p e below P T (mkF m pc ls (.int j :: .ref a :: st)) := by
  subst hp
  obtain ⟨cl, Ar, -, S, N, H, -⟩ := F
  exact own_go (fun t q => X.caload hx (by rw [eT]; exact Ar.1) (State.isArrayOf_alike hZ.alike Ar.2.1) Ar.2.2 (inb_of S hj) (H.at (inb_of S hj) hv) (g := mkF m pc ls (.int j :: .ref a :: st)) rfl rfl (hb hby hd) t q) k
theorem g_laload (X : Stand p l e R s m args below meth c T locs cells slots) (hx : p.tables.exec = Jvm.exec) (hby : c.code = bytes) (hZ : Z.Warmed39 s.vm) (eT : T.heap = h) {a : Addr} {kk : ClassId} {n : Int32} {vs : List Value} {d v : Value} {j : Int32} (F : Arv Z h a kk .long n vs d) (hj : ¬ j < 0 ∧ j < n) (hv : vs.getD j.toNatClampNeg d = v) (hd : decode bytes pc = .ok (.laload, 1)) (hp : pc + 1 = pc')
    (k : own_Got p e below P T (mkF m pc' ls (v :: st))) : own_Got p e below P T (mkF m pc ls (.int j :: .ref a :: st)) := by
  subst hp
  obtain ⟨cl, Ar, -, S, N, H, -⟩ := F
  exact own_go (fun t q => X.laload hx (by rw [eT]; exact Ar.1) (State.isArrayOf_alike hZ.alike Ar.2.1) Ar.2.2 (inb_of S hj) (H.at (inb_of S hj) hv) (g := mkF m pc ls (.int j :: .ref a :: st)) rfl rfl (hb hby hd) t q) k
theorem g_baload (X : Stand p l e R s m args below meth c T locs cells slots) (hx : p.tables.exec = Jvm.exec) (hby : c.code = bytes) (hZ : Z.Warmed39 s.vm) (eT : T.heap = h) {a : Addr} {kk : ClassId} {n : Int32} {vs : List Value} {d v : Value} {j : Int32} (F : Arv Z h a kk .byte n vs d) (hj : ¬ j < 0 ∧ j < n) (hv : vs.getD j.toNatClampNeg d = v) (hd : decode bytes pc = .ok (.baload, 1)) (hp : pc + 1 = pc')
    (k : own_Got p e below P T (mkF m pc' ls (v :: st))) : own_Got p e below P T (mkF m pc ls (.int j :: .ref a :: st)) := by
  subst hp
  obtain ⟨cl, Ar, -, S, N, H, -⟩ := F
  exact own_go (fun t q => X.baloadBytes hx (by rw [eT]; exact Ar.1) (State.isArrayOf_alike hZ.alike Ar.2.1) Ar.2.2 (inb_of S hj) (H.at (inb_of S hj) hv) (g := mkF m pc ls (.int j :: .ref a :: st)) rfl rfl (hb hby hd) t q) k
theorem g_daload (X : Stand p l e R s m args below meth c T locs cells slots) (hx : p.tables.exec = Jvm.exec) (hby : c.code = bytes) (hZ : Z.Warmed39 s.vm) (eT : T.heap = h) {a : Addr} {kk : ClassId} {n : Int32} {vs : List Value} {d v : Value} {j : Int32} (F : Arv Z h a kk .double n vs d) (hj : ¬ j < 0 ∧ j < n) (hv : vs.getD j.toNatClampNeg d = v) (hd : decode bytes pc = .ok (.daload, 1)) (hp : pc + 1 = pc')
    (k : own_Got p e below P T (mkF m pc' ls (v :: st))) : own_Got p e below P T (mkF m pc ls (.int j :: .ref a :: st)) := by
  subst hp
  obtain ⟨cl, Ar, -, S, N, H, -⟩ := F
  exact own_go (fun t q => X.daload hx (by rw [eT]; exact Ar.1) (State.isArrayOf_alike hZ.alike Ar.2.1) Ar.2.2 (inb_of S hj) (H.at (inb_of S hj) hv) (g := mkF m pc ls (.int j :: .ref a :: st)) rfl rfl (hb hby hd) t q) k
theorem g_aaload (X : Stand p l e R s m args below meth c T locs cells slots) (hx : p.tables.exec = Jvm.exec) (hby : c.code = bytes) (hZ : Z.Warmed39 s.vm) (eT : T.heap = h) {a : Addr} {kk : ClassId} {ty : FieldType} {n : Int32} {vs : List Value} {d v : Value} {j : Int32} (F : Arv Z h a kk ty n vs d) (ht : ty.isReference = true) (hj : ¬ j < 0 ∧ j < n) (hv : vs.getD j.toNatClampNeg d = v) (hd : decode bytes pc = .ok (.aaload, 1)) (hp : pc + 1 = pc')
    (k : own_Got p e below P T (mkF m pc' ls (v :: st))) : own_Got p e below P T (mkF m pc ls (.int j :: .ref a :: st)) := by
  subst hp
  obtain ⟨cl, Ar, -, S, N, H, -⟩ := F
  exact own_go (fun t q => X.aaload hx (by rw [eT]; exact Ar.1) (State.isArrayOf_alike hZ.alike Ar.2.1) ht Ar.2.2 (inb_of S hj) (H.at (inb_of S hj) hv) (g := mkF m pc ls (.int j :: .ref a :: st)) rfl rfl (hb hby hd) t q) k
theorem a_iastore (X : Stand p l e R s m args below meth c T locs cells slots) (hx : p.tables.exec = Jvm.exec) (hby : c.code = bytes) (hZ : Z.Warmed39 s.vm) (eT : T.heap = h) {a : Addr} {kk : ClassId} {n : Int32} {vs : List Value} {d : Value} {j : Int32} (x : Int32) (i : Nat) (F : Arv Z h a kk .int n vs d) (hj : ¬ j < 0 ∧ j < n) (hi : j.toNatClampNeg = i) (hl : i < vs.length) (hd : decode bytes pc = .ok (.iastore, 1)) :
    ∃ T' h', Stand p l e R s m args below meth c T' (locs ++ [⟨a, j.toNatClampNeg⟩]) cells slots ∧ T'.heap = h' ∧ Wr h h' a j.toNatClampNeg (.int x) ∧ Arv Z h' a kk .int n (vs.set i (.int x)) d ∧ ∀ t, Steps p.tables e below (T'.setTop (mkF m (pc + 1) ls st)) t → Steps p.tables e below (T.setTop (mkF m pc ls (.int x :: .int j :: .ref a :: st))) t := by
  obtain ⟨cl, Ar, q1, S, N, H, Gf⟩ := F
  obtain ⟨T', h', X', e', W, k⟩ := stI X hx hZ eT Ar (j := j) (inb_of S hj) (g := mkF m pc ls (.int x :: .int j :: .ref a :: st)) rfl rfl (hb hby hd)
  exact ⟨T', h', X', e', W, Arv.set Ar q1 S N H Gf (rfl) W i hi hl, k⟩
theorem a_castore (X : Stand p l e R s m args below meth c T locs cells slots) (hx : p.tables.exec = Jvm.exec) (hby : c.code = bytes) (hZ : Z.Warmed39 s.vm) (eT : T.heap = h) {a : Addr} {kk : ClassId} {n : Int32} {vs : List Value} {d : Value} {j : Int32} (x : Int32) (i : Nat) (F : Arv Z h a kk .char n vs d) (hj : ¬ j < 0 ∧ j < n) (hi : j.toNatClampNeg = i) (hl : i < vs.length) (hd : decode bytes pc = .ok (.castore, 1)) :
    ∃ T' h', Stand p l e R s m args below meth c T' (locs ++ [⟨a, j.toNatClampNeg⟩]) cells slots ∧ T'.heap = h' ∧ Wr h h' a j.toNatClampNeg (.int (nar .char x)) ∧ Arv Z h' a kk .char n (vs.set i (.int (nar .char x))) d ∧ ∀ t, Steps p.tables e below (T'.setTop (mkF m (pc + 1) ls st)) t → Steps p.tables e below (T.setTop (mkF m pc ls (.int x :: .int j :: .ref a :: st))) t := by
  obtain ⟨cl, Ar, q1, S, N, H, Gf⟩ := F
  obtain ⟨T', h', X', e', W, k⟩ := stC X hx hZ eT Ar (j := j) (inb_of S hj) (g := mkF m pc ls (.int x :: .int j :: .ref a :: st)) rfl rfl (hb hby hd)
  exact ⟨T', h', X', e', W, Arv.set Ar q1 S N H Gf (fits_nar_char _) W i hi hl, k⟩
theorem a_bastore (X : Stand p l e R s m args below meth c T locs cells slots) (hx : p.tables.exec = Jvm.exec) (hby : c.code = bytes) (hZ : Z.Warmed39 s.vm) (eT : T.heap = h) {a : Addr} {kk : ClassId} {n : Int32} {vs : List Value} {d : Value} {j : Int32} (x : Int32) (i : Nat) (F : Arv Z h a kk .byte n vs d) (hj : ¬ j < 0 ∧ j < n) (hi : j.toNatClampNeg = i) (hl : i < vs.length) (hd : decode bytes pc = .ok (.bastore, 1)) :
    ∃ T' h', Stand p l e R s m args below meth c T' (locs ++ [⟨a, j.toNatClampNeg⟩]) cells slots ∧ T'.heap = h' ∧ Wr h h' a j.toNatClampNeg (.int (nar .byte x)) ∧ Arv Z h' a kk .byte n (vs.set i (.int (nar .byte x))) d ∧ ∀ t, Steps p.tables e below (T'.setTop (mkF m (pc + 1) ls st)) t → Steps p.tables e below (T.setTop (mkF m pc ls (.int x :: .int j :: .ref a :: st))) t := by
  obtain ⟨cl, Ar, q1, S, N, H, Gf⟩ := F
  obtain ⟨T', h', X', e', W, k⟩ := stB X hx hZ eT Ar (j := j) (inb_of S hj) (g := mkF m pc ls (.int x :: .int j :: .ref a :: st)) rfl rfl (hb hby hd)
  exact ⟨T', h', X', e', W, Arv.set Ar q1 S N H Gf (fits_nar_byte _) W i hi hl, k⟩
theorem a_lastore (X : Stand p l e R s m args below meth c T locs cells slots) (hx : p.tables.exec = Jvm.exec) (hby : c.code = bytes) (hZ : Z.Warmed39 s.vm) (eT : T.heap = h) {a : Addr} {kk : ClassId} {n : Int32} {vs : List Value} {d : Value} {j : Int32} (x : Int64) (i : Nat) (F : Arv Z h a kk .long n vs d) (hj : ¬ j < 0 ∧ j < n) (hi : j.toNatClampNeg = i) (hl : i < vs.length) (hd : decode bytes pc = .ok (.lastore, 1)) :
    ∃ T' h', Stand p l e R s m args below meth c T' (locs ++ [⟨a, j.toNatClampNeg⟩]) cells slots ∧ T'.heap = h' ∧ Wr h h' a j.toNatClampNeg (.long x) ∧ Arv Z h' a kk .long n (vs.set i (.long x)) d ∧ ∀ t, Steps p.tables e below (T'.setTop (mkF m (pc + 1) ls st)) t → Steps p.tables e below (T.setTop (mkF m pc ls (.long x :: .int j :: .ref a :: st))) t := by
  obtain ⟨cl, Ar, q1, S, N, H, Gf⟩ := F
  obtain ⟨T', h', X', e', W, k⟩ := stJ X hx hZ eT Ar (j := j) (inb_of S hj) (g := mkF m pc ls (.long x :: .int j :: .ref a :: st)) rfl rfl (hb hby hd)
  exact ⟨T', h', X', e', W, Arv.set Ar q1 S N H Gf (rfl) W i hi hl, k⟩
theorem a_dastore (X : Stand p l e R s m args below meth c T locs cells slots) (hx : p.tables.exec = Jvm.exec) (hby : c.code = bytes) (hZ : Z.Warmed39 s.vm) (eT : T.heap = h) {a : Addr} {kk : ClassId} {n : Int32} {vs : List Value} {d : Value} {j : Int32} (x : UInt64) (i : Nat) (F : Arv Z h a kk .double n vs d) (hj : ¬ j < 0 ∧ j < n) (hi : j.toNatClampNeg = i) (hl : i < vs.length) (hd : decode bytes pc = .ok (.dastore, 1)) :
    ∃ T' h', Stand p l e R s m args below meth c T' (locs ++ [⟨a, j.toNatClampNeg⟩]) cells slots ∧ T'.heap = h' ∧ Wr h h' a j.toNatClampNeg (.double x) ∧ Arv Z h' a kk .double n (vs.set i (.double x)) d ∧ ∀ t, Steps p.tables e below (T'.setTop (mkF m (pc + 1) ls st)) t → Steps p.tables e below (T.setTop (mkF m pc ls (.double x :: .int j :: .ref a :: st))) t := by
  obtain ⟨cl, Ar, q1, S, N, H, Gf⟩ := F
  obtain ⟨T', h', X', e', W, k⟩ := stD X hx hZ eT Ar (j := j) (inb_of S hj) (g := mkF m pc ls (.double x :: .int j :: .ref a :: st)) rfl rfl (hb hby hd)
  exact ⟨T', h', X', e', W, Arv.set Ar q1 S N H Gf (rfl) W i hi hl, k⟩
theorem a_aastore (X : Stand p l e R s m args below meth c T locs cells slots) (hx : p.tables.exec = Jvm.exec) (hby : c.code = bytes) (hZ : Z.Warmed39 s.vm) (eT : T.heap = h) {a b : Addr} {kk : ClassId} {Cn : String} {n : Int32} {vs : List Value} {d : Value} {j : Int32} (i : Nat) (F : Arv Z h a kk (.object Cn) n vs d) (O : Ovr Z kk Cn) (I : Ins Z h b Cn true) (hj : ¬ j < 0 ∧ j < n) (hi : j.toNatClampNeg = i) (hl : i < vs.length) (hd : decode bytes pc = .ok (.aastore, 1)) :
    ∃ T' h', Stand p l e R s m args below meth c T' (locs ++ [⟨a, j.toNatClampNeg⟩]) cells slots ∧ T'.heap = h' ∧ Wr h h' a j.toNatClampNeg (.ref b) ∧ Arv Z h' a kk (.object Cn) n (vs.set i (.ref b)) d ∧ ∀ t, Steps p.tables e below (T'.setTop (mkF m (pc + 1) ls st)) t → Steps p.tables e below (T.setTop (mkF m pc ls (.ref b :: .int j :: .ref a :: st))) t := by
  obtain ⟨cl, Ar, q1, S, N, H, Gf⟩ := F
  obtain ⟨T', h', X', e', W, k⟩ := stR X hx hZ eT Ar (j := j) (inb_of S hj) rfl (Sto.ofV Ar q1 O I) (g := mkF m pc ls (.ref b :: .int j :: .ref a :: st)) rfl rfl (hb hby hd)
  exact ⟨T', h', X', e', W, Arv.set Ar q1 S N H Gf rfl W i hi hl, k⟩
theorem own_stakeep {C n d : String} {v : Value} {K : String} {a : Addr} (F : Sta Z h C n d v) (k : Keep h h' [a]) (E : Exa Z h a K) : Sta Z h' C n d v := by
  obtain ⟨cf, i, kk, f, st, cell, h1, h2, h3, h4, h5, h6, h7⟩ := F
  refine ⟨cf, i, kk, f, st, cell, h1, h2, h3, h4, k.2.1 _ _ h5 (fun q => ?_), h6, h7⟩
  obtain ⟨c2, k2, g1, -, -, g4, -⟩ := E
  cases List.mem_singleton.mp q
  cases h5.symm.trans g1
  rw [g4] at h6; cases h6
theorem own_stakeep0 {C n d : String} {v : Value} (F : Sta Z h C n d v) (k : Keep h h' []) : Sta Z h' C n d v := by
  obtain ⟨cf, i, kk, f, st, cell, h1, h2, h3, h4, h5, h6, h7⟩ := F
  exact ⟨cf, i, kk, f, st, cell, h1, h2, h3, h4, k.2.1 _ _ h5 nin0, h6, h7⟩
theorem own_eqI {t : Term} {first : State} {o : Option Outcome} {idx : List Nat} {z : Int32} (hq : (Cond.eq t (.int z)).value args first o s idx = some true) : t.eval args first o idx s = some (.int z) := by
  obtain ⟨x, y, hx, hy, kk, -⟩ := cmp_v (Or.inl hq)
  have hy' : y = .int z := Option.some.inj (hy.symm.trans rfl)
  subst hy'
  cases x with
  | int x => simp only [Cond.value, hx, hy] at hq; simp at hq; rw [hx, hq]
  | _ => simp [Kin, Value.isRef] at kk
theorem own_eqR {t u : Term} {first : State} {o : Option Outcome} {idx : List Nat} {b : Addr} (hq : (Cond.eq t u).value args first o s idx = some true) (hu : u.eval args first o idx s = some (.ref b)) : t.eval args first o idx s = some (.ref b) := by
  obtain ⟨x, y, hx, hy, kk, kk2⟩ := cmp_v (Or.inl hq)
  cases hu.symm.trans hy
  have hr : x.isRef = true := kk2.2
  have := gotT (eq_R hx hu hr rfl) hq
  rw [hx, this]
theorem g_i2d (X : Stand p l e R s m args below meth c T locs cells slots) (hx : p.tables.exec = Jvm.exec) (hby : c.code = bytes) {x : Int32} (hd : decode bytes pc = .ok (.i2d, 1))  (hp : pc + 1 = pc')
    (k : own_Got p e below P T (mkF m pc' ls (.double (FP.i2d x) :: st))) : own_Got p e below P T (mkF m pc ls (.int x :: st)) := by
  subst hp; exact own_go (fun _ q => XS.i2dS X.here hx rfl (hb hby hd) rfl rfl q) k
theorem g_dcmp (X : Stand p l e R s m args below meth c T locs cells slots) (hx : p.tables.exec = Jvm.exec) (hby : c.code = bytes) {o : CmpOp} {x y : UInt64} (hd : decode bytes pc = .ok (.dcmp o, 1))  (hp : pc + 1 = pc')
    (k : own_Got p e below P T (mkF m pc' ls (.int (cmpValue (FP.dcmp x y) o) :: st))) : own_Got p e below P T (mkF m pc ls (.double y :: .double x :: st)) := by
  subst hp; exact own_go (fun _ q => XS.dcmpS X.here hx rfl (hb hby hd) rfl rfl q) k
theorem g_dconst0 (X : Stand p l e R s m args below meth c T locs cells slots) (hx : p.tables.exec = Jvm.exec) (hby : c.code = bytes) (z : UInt64) (hd : decode bytes pc = .ok (.dconst 0, 1)) (hz : FP.dconst0 = z) (hp : pc + 1 = pc')
    (k : own_Got p e below P T (mkF m pc' ls (.double z :: st))) : own_Got p e below P T (mkF m pc ls (st)) := by
  subst hp; exact own_go (fun _ q => XS.dconst0 X.here hx rfl (hb hby hd) hz q) k
theorem g_dadd (X : Stand p l e R s m args below meth c T locs cells slots) (hx : p.tables.exec = Jvm.exec) (hby : c.code = bytes) {x y : UInt64} (hd : decode bytes pc = .ok (.dadd, 1)) (hn : Jvm.Free.Fl.NoNaN64 (FP.dadd x y)) (hp : pc + 1 = pc')
    (k : own_Got p e below P T (mkF m pc' ls (.double (FP.dadd x y) :: st))) : own_Got p e below P T (mkF m pc ls (.double y :: .double x :: st)) := by
  subst hp; exact own_go (fun _ q => XS.daddS X.here hx rfl (hb hby hd) rfl hn rfl q) k
theorem g_dsub (X : Stand p l e R s m args below meth c T locs cells slots) (hx : p.tables.exec = Jvm.exec) (hby : c.code = bytes) {x y : UInt64} (hd : decode bytes pc = .ok (.dsub, 1)) (hn : Jvm.Free.Fl.NoNaN64 (FP.dsub x y)) (hp : pc + 1 = pc')
    (k : own_Got p e below P T (mkF m pc' ls (.double (FP.dsub x y) :: st))) : own_Got p e below P T (mkF m pc ls (.double y :: .double x :: st)) := by
  subst hp; exact own_go (fun _ q => XS.dsubS X.here hx rfl (hb hby hd) rfl hn rfl q) k
theorem g_dmul (X : Stand p l e R s m args below meth c T locs cells slots) (hx : p.tables.exec = Jvm.exec) (hby : c.code = bytes) {x y : UInt64} (hd : decode bytes pc = .ok (.dmul, 1)) (hn : Jvm.Free.Fl.NoNaN64 (FP.dmul x y)) (hp : pc + 1 = pc')
    (k : own_Got p e below P T (mkF m pc' ls (.double (FP.dmul x y) :: st))) : own_Got p e below P T (mkF m pc ls (.double y :: .double x :: st)) := by
  subst hp; exact own_go (fun _ q => XS.dmulS X.here hx rfl (hb hby hd) rfl hn rfl q) k
theorem g_ddiv (X : Stand p l e R s m args below meth c T locs cells slots) (hx : p.tables.exec = Jvm.exec) (hby : c.code = bytes) {x y : UInt64} (hd : decode bytes pc = .ok (.ddiv, 1)) (hn : Jvm.Free.Fl.NoNaN64 (FP.ddiv x y)) (hp : pc + 1 = pc')
    (k : own_Got p e below P T (mkF m pc' ls (.double (FP.ddiv x y) :: st))) : own_Got p e below P T (mkF m pc ls (.double y :: .double x :: st)) := by
  subst hp; exact own_go (fun _ q => XS.ddivS X.here hx rfl (hb hby hd) rfl hn rfl q) k
theorem own_narR {t : FieldType} {w : Value} (ht : t.isReference = true) (hw : w.isRef = true) : narrow t w = w := by rcases ref_cases hw with rfl | ⟨a, rfl⟩ <;> cases t <;> first | rfl | (cases ht)
theorem own_fitR {t : FieldType} {w : Value} (ht : t.isReference = true) (hw : w.isRef = true) : fits t w = true := by rcases ref_cases hw with rfl | ⟨a, rfl⟩ <;> cases t <;> first | rfl | (cases ht)
theorem own_nb (x : Int32) : nar .byte (x.toInt8.toInt32) = x.toInt8.toInt32 := by
  show (x.toInt8.toInt32).toInt8.toInt32 = x.toInt8.toInt32
  simp
theorem own_nc (x : Int32) : nar .char (x.toUInt32.toUInt16.toUInt32.toInt32) = x.toUInt32.toUInt16.toUInt32.toInt32 := by
  show (x.toUInt32.toUInt16.toUInt32.toInt32).toUInt32.toUInt16.toUInt32.toInt32 = _
  have q : ∀ u : UInt16, u.toUInt32.toInt32.toUInt32.toUInt16 = u := fun u => by simp
  rw [q]
end OwnKit
theorem d_mk0_0 : decode method_2_code 0 = .ok (.iload_n 0, 1) := by decide +kernel
theorem d_mk0_1 : decode method_2_code 1 = .ok (.ifCond .ne 7, 3) := by decide +kernel
theorem d_mk0_4 : decode method_2_code 4 = .ok (.iconst 0, 1) := by decide +kernel
theorem d_mk0_5 : decode method_2_code 5 = .ok (.newarray .byte, 2) := by decide +kernel
theorem d_mk0_7 : decode method_2_code 7 = .ok (.areturn, 1) := by decide +kernel
theorem pn0 : plainName "com/example/coppice/coppice/tree/ByteStringOfPinLaw" = true := by first | (simp [plainName, overriddenIn]; done) | decide +kernel
theorem ef_mk0 (m : MethodId) (x1 : Int32) (x2 : Int32) (x3 : Int32) : entryFrame m #[(.int (0 : Int32)), (.int x1), (.int x2), (.int x3)] 4 = mkF m 0 #[.val (.int (0 : Int32)), .val (.int x1), .val (.int x2), .val (.int x3)] [] := by first | (simp [entryFrame, mkF, argsToLocals, Value.category]; done) | rfl
def Q_mk0 (Z : State) (x1 : Int32) (x2 : Int32) (x3 : Int32) (h0 : Heap) (n0 : Nat) (v : Option Value) (h : Heap) (L : List Loc) : Prop := ∃ (ob : Addr), ∃ (kk : ClassId), v = some (.ref ob) ∧ Fr n0 L ∧ Keep h0 h [] ∧ h0.size ≤ ob ∧ Exa Z h ob "[B" ∧ Arv Z h ob kk .byte (0 : Int32) [] (.int (0 : Int32))
set_option maxRecDepth 65536 in
set_option maxHeartbeats 40000000 in
theorem rm_mk0 (l : Launch) (Z : State) (aT : Array Value) (hw : ∀ d ∈ tables_1, d.before aT Z = true) (ws : List Jvm.Cond) (x1 : Int32) (x2 : Int32) (x3 : Int32) (h0 : Heap) (n0 : Nat) (Z0 : n0 ≤ h0.size) :
    MetFree l (⟨"com/example/coppice/coppice/tree/ByteStringOfPinLaw", "make", "(IIII)[B"⟩ : MethodName) (head1 (Jvm.Cond.code (⟨"com/example/coppice/coppice/tree/ByteStringOfPinLaw", "make", "(IIII)[B"⟩ : MethodName) method_2_code 4 (some (.array .byte)) :: ws) ({ frames := 0, cells := 1, slots := 0, locals := 0 } : Room)) (fun a U => a = #[(.int (0 : Int32)), (.int x1), (.int x2), (.int x3)] ∧ Z.Warmed39 U.vm ∧ U.heap = h0) (fun _ _ _ _ _ => True) (fun _ U o U' => ∃ v L, o = .returned v ∧ Q_mk0 Z x1 x2 x3 h0 n0 v U'.heap L ∧ FrameEnd U o U' L ({ frames := 0, cells := 1, slots := 0, locals := 0 } : Room).cells ({ frames := 0, cells := 1, slots := 0, locals := 0 } : Room).slots) := by
  refine MetFree.of_bodySF (plainFor_of_name pn0) hisR ?_
  intro p e s m args below meth c s₁ Bd hml0 hP hK
  obtain ⟨rfl, hZ, hh⟩ := hP
  have hx := Bd.exec
  have hby := Bd.bytes
  have hml : c.maxLocals = 4 := hml0
  have hown : s.vm.findClass "com/example/coppice/coppice/tree/ByteStringOfPinLaw" = some m.cls := findClass_of_methodNamed Bd.named
  have hnm := (name_of_methodNamed Bd.named Bd.method).1
  have hlk := Bd.notSynchronized
  have hrt := Bd.returns
  have X0 : Stand p l e ({ frames := 0, cells := 1, slots := 0, locals := 0 } : Room) s m #[(.int (0 : Int32)), (.int x1), (.int x2), (.int x3)] below meth c s₁ [] 0 0 := Stand.of_body Bd
  have e0 : s₁.heap = h0 := by rw [← hh, Bd.state]; rfl
  have N0 := Fr.nil n0
  refine own_cast (P := own_End s (Q_mk0 Z x1 x2 x3 h0 n0) ({ frames := 0, cells := 1, slots := 0, locals := 0 } : Room).cells ({ frames := 0, cells := 1, slots := 0, locals := 0 } : Room).slots) (ef_mk0 m x1 x2 x3) ?_
  refine g_iloadN X0 hx hby d_mk0_0 rfl (rfl : 0 + 1 = 1) ?_
  refine g_ifF X0 hx hby d_mk0_1 ((if0 _ _).trans (teq (by decide : (0 : Int32) = (0 : Int32))).2) (rfl : 1 + 3 = 4) ?_
  refine g_iconst X0 hx hby (0 : Int32) d_mk0_4 (by decide) (rfl : 4 + 1 = 5) ?_
  obtain ⟨T1, h1, k1, X1, e1, E1, A1, B1, st1⟩ := newPE X0 hx hZ (hw _ (List.mem_of_getElem? (i := 4) rfl)) e0 (g := (mkF m 5 #[.val (.int (0 : Int32)), .val (.int x1), .val (.int x2), .val (.int x3)] [(.int (0 : Int32))])) rfl (hb hby d_mk0_5) rfl (by decide) (cap := 0) (by decide) (by decide) (by decide) (by decide) (ad := "[B") (by decide +kernel)
  obtain ⟨b1, g1⟩ : ∃ z, z = h0.size := ⟨_, rfl⟩
  rw [← g1] at A1 B1 st1
  have Z1 : n0 ≤ h1.size := Nat.le_trans Z0 E1.1
  have K1 : Keep h0 h1 [] := (Keep.refl h0 []).ext E1
  have ge1 : n0 ≤ b1 := Nat.le_trans Z0 (Nat.le_of_eq g1.symm)
  have sz1 : h0.size ≤ b1 := Nat.le_trans (Keep.refl h0 []).1 (Nat.le_of_eq g1.symm)
  have V1 : Arv Z h1 b1 k1 .byte (0 : Int32) [] (.int (0 : Int32)) := (Arv.new A1 (by decide)).pad (pad_rep [] _ 0)
  refine own_go st1 ?_
  show own_Got p e below _ T1 (mkF m 7 #[.val (.int (0 : Int32)), .val (.int x1), .val (.int x2), .val (.int x3)] [(.ref b1)])
  refine own_retR X1 hx hby hlk hrt rfl d_mk0_7 (by decide) (by decide) rfl ?_
  show Q_mk0 Z x1 x2 x3 h0 n0 _ T1.heap _
  rw [e1]
  exact ⟨b1, k1, rfl, N0, K1, sz1, B1, V1⟩
theorem d_mk1_0 : decode method_2_code 0 = .ok (.iload_n 0, 1) := by decide +kernel
theorem d_mk1_1 : decode method_2_code 1 = .ok (.ifCond .ne 7, 3) := by decide +kernel
theorem d_mk1_8 : decode method_2_code 8 = .ok (.iload_n 0, 1) := by decide +kernel
theorem d_mk1_9 : decode method_2_code 9 = .ok (.iconst 1, 1) := by decide +kernel
theorem d_mk1_10 : decode method_2_code 10 = .ok (.if_icmp .ne 12, 3) := by decide +kernel
theorem d_mk1_13 : decode method_2_code 13 = .ok (.iconst 1, 1) := by decide +kernel
theorem d_mk1_14 : decode method_2_code 14 = .ok (.newarray .byte, 2) := by decide +kernel
theorem d_mk1_16 : decode method_2_code 16 = .ok (.dup, 1) := by decide +kernel
theorem d_mk1_17 : decode method_2_code 17 = .ok (.iconst 0, 1) := by decide +kernel
theorem d_mk1_18 : decode method_2_code 18 = .ok (.iload_n 1, 1) := by decide +kernel
theorem d_mk1_19 : decode method_2_code 19 = .ok (.i2b, 1) := by decide +kernel
theorem d_mk1_20 : decode method_2_code 20 = .ok (.bastore, 1) := by decide +kernel
theorem d_mk1_21 : decode method_2_code 21 = .ok (.areturn, 1) := by decide +kernel
theorem ef_mk1 (m : MethodId) (x1 : Int32) (x2 : Int32) (x3 : Int32) : entryFrame m #[(.int (1 : Int32)), (.int x1), (.int x2), (.int x3)] 4 = mkF m 0 #[.val (.int (1 : Int32)), .val (.int x1), .val (.int x2), .val (.int x3)] [] := by first | (simp [entryFrame, mkF, argsToLocals, Value.category]; done) | rfl
def Q_mk1 (Z : State) (x1 : Int32) (x2 : Int32) (x3 : Int32) (h0 : Heap) (n0 : Nat) (v : Option Value) (h : Heap) (L : List Loc) : Prop := ∃ (ob : Addr), ∃ (kk : ClassId), v = some (.ref ob) ∧ Fr n0 L ∧ Keep h0 h [] ∧ h0.size ≤ ob ∧ Exa Z h ob "[B" ∧ Arv Z h ob kk .byte (1 : Int32) [(.int (x1.toInt8.toInt32))] (.int (0 : Int32))
set_option maxRecDepth 65536 in
set_option maxHeartbeats 40000000 in
theorem rm_mk1 (l : Launch) (Z : State) (aT : Array Value) (hw : ∀ d ∈ tables_1, d.before aT Z = true) (ws : List Jvm.Cond) (x1 : Int32) (x2 : Int32) (x3 : Int32) (h0 : Heap) (n0 : Nat) (Z0 : n0 ≤ h0.size) :
    MetFree l (⟨"com/example/coppice/coppice/tree/ByteStringOfPinLaw", "make", "(IIII)[B"⟩ : MethodName) (head1 (Jvm.Cond.code (⟨"com/example/coppice/coppice/tree/ByteStringOfPinLaw", "make", "(IIII)[B"⟩ : MethodName) method_2_code 4 (some (.array .byte)) :: ws) ({ frames := 0, cells := 1, slots := 1, locals := 0 } : Room)) (fun a U => a = #[(.int (1 : Int32)), (.int x1), (.int x2), (.int x3)] ∧ Z.Warmed39 U.vm ∧ U.heap = h0) (fun _ _ _ _ _ => True) (fun _ U o U' => ∃ v L, o = .returned v ∧ Q_mk1 Z x1 x2 x3 h0 n0 v U'.heap L ∧ FrameEnd U o U' L ({ frames := 0, cells := 1, slots := 1, locals := 0 } : Room).cells ({ frames := 0, cells := 1, slots := 1, locals := 0 } : Room).slots) := by
  refine MetFree.of_bodySF (plainFor_of_name pn0) hisR ?_
  intro p e s m args below meth c s₁ Bd hml0 hP hK
  obtain ⟨rfl, hZ, hh⟩ := hP
  have hx := Bd.exec
  have hby := Bd.bytes
  have hml : c.maxLocals = 4 := hml0
  have hown : s.vm.findClass "com/example/coppice/coppice/tree/ByteStringOfPinLaw" = some m.cls := findClass_of_methodNamed Bd.named
  have hnm := (name_of_methodNamed Bd.named Bd.method).1
  have hlk := Bd.notSynchronized
  have hrt := Bd.returns
  have X0 : Stand p l e ({ frames := 0, cells := 1, slots := 1, locals := 0 } : Room) s m #[(.int (1 : Int32)), (.int x1), (.int x2), (.int x3)] below meth c s₁ [] 0 0 := Stand.of_body Bd
  have e0 : s₁.heap = h0 := by rw [← hh, Bd.state]; rfl
  have N0 := Fr.nil n0
  refine own_cast (P := own_End s (Q_mk1 Z x1 x2 x3 h0 n0) ({ frames := 0, cells := 1, slots := 1, locals := 0 } : Room).cells ({ frames := 0, cells := 1, slots := 1, locals := 0 } : Room).slots) (ef_mk1 m x1 x2 x3) ?_
  refine g_iloadN X0 hx hby d_mk1_0 rfl (rfl : 0 + 1 = 1) ?_
  refine g_ifT X0 hx hby d_mk1_1 ((if0 _ _).trans (feq (by decide : ¬ ((1 : Int32) = (0 : Int32)))).2) (by decide) (pc' := 8) (by decide) ?_
  refine g_iloadN X0 hx hby d_mk1_8 rfl (rfl : 8 + 1 = 9) ?_
  refine g_iconst X0 hx hby (1 : Int32) d_mk1_9 (by decide) (rfl : 9 + 1 = 10) ?_
  refine g_icF X0 hx hby d_mk1_10 (teq (by decide : (1 : Int32) = (1 : Int32))).2 (rfl : 10 + 3 = 13) ?_
  refine g_iconst X0 hx hby (1 : Int32) d_mk1_13 (by decide) (rfl : 13 + 1 = 14) ?_
  obtain ⟨T2, h2, k2, X2, e2, E2, A2, B2, st2⟩ := newPE X0 hx hZ (hw _ (List.mem_of_getElem? (i := 4) rfl)) e0 (g := (mkF m 14 #[.val (.int (1 : Int32)), .val (.int x1), .val (.int x2), .val (.int x3)] [(.int (1 : Int32))])) rfl (hb hby d_mk1_14) rfl (by decide) (cap := 1) (by decide) (by decide) (by decide) (by decide) (ad := "[B") (by decide +kernel)
  obtain ⟨b2, g2⟩ : ∃ z, z = h0.size := ⟨_, rfl⟩
  rw [← g2] at A2 B2 st2
  have Z2 : n0 ≤ h2.size := Nat.le_trans Z0 E2.1
  have K2 : Keep h0 h2 [] := (Keep.refl h0 []).ext E2
  have ge2 : n0 ≤ b2 := Nat.le_trans Z0 (Nat.le_of_eq g2.symm)
  have sz2 : h0.size ≤ b2 := Nat.le_trans (Keep.refl h0 []).1 (Nat.le_of_eq g2.symm)
  have V2 : Arv Z h2 b2 k2 .byte (1 : Int32) [(.int (0 : Int32))] (.int (0 : Int32)) := (Arv.new A2 (by decide)).pad (pad_rep [] _ 1)
  refine own_go st2 ?_
  show own_Got p e below _ T2 (mkF m 16 #[.val (.int (1 : Int32)), .val (.int x1), .val (.int x2), .val (.int x3)] [(.ref b2)])
  refine g_dup X2 hx hby d_mk1_16 rfl (rfl : 16 + 1 = 17) ?_
  refine g_iconst X2 hx hby (0 : Int32) d_mk1_17 (by decide) (rfl : 17 + 1 = 18) ?_
  refine g_iloadN X2 hx hby d_mk1_18 rfl (rfl : 18 + 1 = 19) ?_
  refine g_i2b X2 hx hby d_mk1_19 (rfl : 19 + 1 = 20) ?_
  obtain ⟨T3, h3, X3, e3, W3, V3, st3⟩ := a_bastore X2 hx hby hZ e2 (ls := #[.val (.int (1 : Int32)), .val (.int x1), .val (.int x2), .val (.int x3)]) (st := [(.ref b2)]) (j := (0 : Int32)) (x1.toInt8.toInt32) 0 V2 ⟨by decide, by decide⟩ (by decide) (Nat.le_of_ble_eq_true rfl) d_mk1_20
  have Z3 : n0 ≤ h3.size := Nat.le_trans Z2 (Keep.of_wr W3).1
  have N3 := Fr.snoc X3 N0 ge2
  have K3 : Keep h0 h3 [] := K2.wr W3 (Or.inr sz2)
  have V3' : Arv Z h3 b2 k2 .byte (1 : Int32) [(.int (x1.toInt8.toInt32))] (.int (0 : Int32)) := by have q := V3; rw [own_nb] at q; exact q
  refine own_go st3 ?_
  show own_Got p e below _ T3 (mkF m 21 #[.val (.int (1 : Int32)), .val (.int x1), .val (.int x2), .val (.int x3)] [(.ref b2)])
  have f4 : Exa Z h3 b2 "[B" := (Exa.wr W3 B2)
  refine own_retR X3 hx hby hlk hrt rfl d_mk1_21 (by decide) (by decide) rfl ?_
  show Q_mk1 Z x1 x2 x3 h0 n0 _ T3.heap _
  rw [e3]
  exact ⟨b2, k2, rfl, N3, K3, sz2, f4, V3'⟩
theorem d_mk2_0 : decode method_2_code 0 = .ok (.iload_n 0, 1) := by decide +kernel
theorem d_mk2_1 : decode method_2_code 1 = .ok (.ifCond .ne 7, 3) := by decide +kernel
theorem d_mk2_8 : decode method_2_code 8 = .ok (.iload_n 0, 1) := by decide +kernel
theorem d_mk2_9 : decode method_2_code 9 = .ok (.iconst 1, 1) := by decide +kernel
theorem d_mk2_10 : decode method_2_code 10 = .ok (.if_icmp .ne 12, 3) := by decide +kernel
theorem d_mk2_22 : decode method_2_code 22 = .ok (.iload_n 0, 1) := by decide +kernel
theorem d_mk2_23 : decode method_2_code 23 = .ok (.iconst 2, 1) := by decide +kernel
theorem d_mk2_24 : decode method_2_code 24 = .ok (.if_icmp .ne 17, 3) := by decide +kernel
theorem d_mk2_27 : decode method_2_code 27 = .ok (.iconst 2, 1) := by decide +kernel
theorem d_mk2_28 : decode method_2_code 28 = .ok (.newarray .byte, 2) := by decide +kernel
theorem d_mk2_30 : decode method_2_code 30 = .ok (.dup, 1) := by decide +kernel
theorem d_mk2_31 : decode method_2_code 31 = .ok (.iconst 0, 1) := by decide +kernel
theorem d_mk2_32 : decode method_2_code 32 = .ok (.iload_n 1, 1) := by decide +kernel
theorem d_mk2_33 : decode method_2_code 33 = .ok (.i2b, 1) := by decide +kernel
theorem d_mk2_34 : decode method_2_code 34 = .ok (.bastore, 1) := by decide +kernel
theorem d_mk2_35 : decode method_2_code 35 = .ok (.dup, 1) := by decide +kernel
theorem d_mk2_36 : decode method_2_code 36 = .ok (.iconst 1, 1) := by decide +kernel
theorem d_mk2_37 : decode method_2_code 37 = .ok (.iload_n 2, 1) := by decide +kernel
theorem d_mk2_38 : decode method_2_code 38 = .ok (.i2b, 1) := by decide +kernel
theorem d_mk2_39 : decode method_2_code 39 = .ok (.bastore, 1) := by decide +kernel
theorem d_mk2_40 : decode method_2_code 40 = .ok (.areturn, 1) := by decide +kernel
theorem ef_mk2 (m : MethodId) (x1 : Int32) (x2 : Int32) (x3 : Int32) : entryFrame m #[(.int (2 : Int32)), (.int x1), (.int x2), (.int x3)] 4 = mkF m 0 #[.val (.int (2 : Int32)), .val (.int x1), .val (.int x2), .val (.int x3)] [] := by first | (simp [entryFrame, mkF, argsToLocals, Value.category]; done) | rfl
def Q_mk2 (Z : State) (x1 : Int32) (x2 : Int32) (x3 : Int32) (h0 : Heap) (n0 : Nat) (v : Option Value) (h : Heap) (L : List Loc) : Prop := ∃ (ob : Addr), ∃ (kk : ClassId), v = some (.ref ob) ∧ Fr n0 L ∧ Keep h0 h [] ∧ h0.size ≤ ob ∧ Exa Z h ob "[B" ∧ Arv Z h ob kk .byte (2 : Int32) [(.int (x1.toInt8.toInt32)), (.int (x2.toInt8.toInt32))] (.int (0 : Int32))
set_option maxRecDepth 65536 in
set_option maxHeartbeats 40000000 in
theorem rm_mk2 (l : Launch) (Z : State) (aT : Array Value) (hw : ∀ d ∈ tables_1, d.before aT Z = true) (ws : List Jvm.Cond) (x1 : Int32) (x2 : Int32) (x3 : Int32) (h0 : Heap) (n0 : Nat) (Z0 : n0 ≤ h0.size) :
    MetFree l (⟨"com/example/coppice/coppice/tree/ByteStringOfPinLaw", "make", "(IIII)[B"⟩ : MethodName) (head1 (Jvm.Cond.code (⟨"com/example/coppice/coppice/tree/ByteStringOfPinLaw", "make", "(IIII)[B"⟩ : MethodName) method_2_code 4 (some (.array .byte)) :: ws) ({ frames := 0, cells := 1, slots := 2, locals := 0 } : Room)) (fun a U => a = #[(.int (2 : Int32)), (.int x1), (.int x2), (.int x3)] ∧ Z.Warmed39 U.vm ∧ U.heap = h0) (fun _ _ _ _ _ => True) (fun _ U o U' => ∃ v L, o = .returned v ∧ Q_mk2 Z x1 x2 x3 h0 n0 v U'.heap L ∧ FrameEnd U o U' L ({ frames := 0, cells := 1, slots := 2, locals := 0 } : Room).cells ({ frames := 0, cells := 1, slots := 2, locals := 0 } : Room).slots) := by
  refine MetFree.of_bodySF (plainFor_of_name pn0) hisR ?_
  intro p e s m args below meth c s₁ Bd hml0 hP hK
  obtain ⟨rfl, hZ, hh⟩ := hP
  have hx := Bd.exec
  have hby := Bd.bytes
  have hml : c.maxLocals = 4 := hml0
  have hown : s.vm.findClass "com/example/coppice/coppice/tree/ByteStringOfPinLaw" = some m.cls := findClass_of_methodNamed Bd.named
  have hnm := (name_of_methodNamed Bd.named Bd.method).1
  have hlk := Bd.notSynchronized
  have hrt := Bd.returns
  have X0 : Stand p l e ({ frames := 0, cells := 1, slots := 2, locals := 0 } : Room) s m #[(.int (2 : Int32)), (.int x1), (.int x2), (.int x3)] below meth c s₁ [] 0 0 := Stand.of_body Bd
  have e0 : s₁.heap = h0 := by rw [← hh, Bd.state]; rfl
  have N0 := Fr.nil n0
  refine own_cast (P := own_End s (Q_mk2 Z x1 x2 x3 h0 n0) ({ frames := 0, cells := 1, slots := 2, locals := 0 } : Room).cells ({ frames := 0, cells := 1, slots := 2, locals := 0 } : Room).slots) (ef_mk2 m x1 x2 x3) ?_
  refine g_iloadN X0 hx hby d_mk2_0 rfl (rfl : 0 + 1 = 1) ?_
  refine g_ifT X0 hx hby d_mk2_1 ((if0 _ _).trans (feq (by decide : ¬ ((2 : Int32) = (0 : Int32)))).2) (by decide) (pc' := 8) (by decide) ?_
  refine g_iloadN X0 hx hby d_mk2_8 rfl (rfl : 8 + 1 = 9) ?_
  refine g_iconst X0 hx hby (1 : Int32) d_mk2_9 (by decide) (rfl : 9 + 1 = 10) ?_
  refine g_icT X0 hx hby d_mk2_10 (feq (by decide : ¬ ((2 : Int32) = (1 : Int32)))).2 (by decide) (pc' := 22) (by decide) ?_
  refine g_iloadN X0 hx hby d_mk2_22 rfl (rfl : 22 + 1 = 23) ?_
  refine g_iconst X0 hx hby (2 : Int32) d_mk2_23 (by decide) (rfl : 23 + 1 = 24) ?_
  refine g_icF X0 hx hby d_mk2_24 (teq (by decide : (2 : Int32) = (2 : Int32))).2 (rfl : 24 + 3 = 27) ?_
  refine g_iconst X0 hx hby (2 : Int32) d_mk2_27 (by decide) (rfl : 27 + 1 = 28) ?_
  obtain ⟨T5, h5, k5, X5, e5, E5, A5, B5, st5⟩ := newPE X0 hx hZ (hw _ (List.mem_of_getElem? (i := 4) rfl)) e0 (g := (mkF m 28 #[.val (.int (2 : Int32)), .val (.int x1), .val (.int x2), .val (.int x3)] [(.int (2 : Int32))])) rfl (hb hby d_mk2_28) rfl (by decide) (cap := 2) (by decide) (by decide) (by decide) (by decide) (ad := "[B") (by decide +kernel)
  obtain ⟨b5, g5⟩ : ∃ z, z = h0.size := ⟨_, rfl⟩
  rw [← g5] at A5 B5 st5
  have Z5 : n0 ≤ h5.size := Nat.le_trans Z0 E5.1
  have K5 : Keep h0 h5 [] := (Keep.refl h0 []).ext E5
  have ge5 : n0 ≤ b5 := Nat.le_trans Z0 (Nat.le_of_eq g5.symm)
  have sz5 : h0.size ≤ b5 := Nat.le_trans (Keep.refl h0 []).1 (Nat.le_of_eq g5.symm)
  have V5 : Arv Z h5 b5 k5 .byte (2 : Int32) [(.int (0 : Int32)), (.int (0 : Int32))] (.int (0 : Int32)) := (Arv.new A5 (by decide)).pad (pad_rep [] _ 2)
  refine own_go st5 ?_
  show own_Got p e below _ T5 (mkF m 30 #[.val (.int (2 : Int32)), .val (.int x1), .val (.int x2), .val (.int x3)] [(.ref b5)])
  refine g_dup X5 hx hby d_mk2_30 rfl (rfl : 30 + 1 = 31) ?_
  refine g_iconst X5 hx hby (0 : Int32) d_mk2_31 (by decide) (rfl : 31 + 1 = 32) ?_
  refine g_iloadN X5 hx hby d_mk2_32 rfl (rfl : 32 + 1 = 33) ?_
  refine g_i2b X5 hx hby d_mk2_33 (rfl : 33 + 1 = 34) ?_
  obtain ⟨T6, h6, X6, e6, W6, V6, st6⟩ := a_bastore X5 hx hby hZ e5 (ls := #[.val (.int (2 : Int32)), .val (.int x1), .val (.int x2), .val (.int x3)]) (st := [(.ref b5)]) (j := (0 : Int32)) (x1.toInt8.toInt32) 0 V5 ⟨by decide, by decide⟩ (by decide) (Nat.le_of_ble_eq_true rfl) d_mk2_34
  have Z6 : n0 ≤ h6.size := Nat.le_trans Z5 (Keep.of_wr W6).1
  have N6 := Fr.snoc X6 N0 ge5
  have K6 : Keep h0 h6 [] := K5.wr W6 (Or.inr sz5)
  have V6' : Arv Z h6 b5 k5 .byte (2 : Int32) [(.int (x1.toInt8.toInt32)), (.int (0 : Int32))] (.int (0 : Int32)) := by have q := V6; rw [own_nb] at q; exact q
  refine own_go st6 ?_
  show own_Got p e below _ T6 (mkF m 35 #[.val (.int (2 : Int32)), .val (.int x1), .val (.int x2), .val (.int x3)] [(.ref b5)])
  refine g_dup X6 hx hby d_mk2_35 rfl (rfl : 35 + 1 = 36) ?_
  refine g_iconst X6 hx hby (1 : Int32) d_mk2_36 (by decide) (rfl : 36 + 1 = 37) ?_
  refine g_iloadN X6 hx hby d_mk2_37 rfl (rfl : 37 + 1 = 38) ?_
  refine g_i2b X6 hx hby d_mk2_38 (rfl : 38 + 1 = 39) ?_
  obtain ⟨T7, h7, X7, e7, W7, V7, st7⟩ := a_bastore X6 hx hby hZ e6 (ls := #[.val (.int (2 : Int32)), .val (.int x1), .val (.int x2), .val (.int x3)]) (st := [(.ref b5)]) (j := (1 : Int32)) (x2.toInt8.toInt32) 1 V6' ⟨by decide, by decide⟩ (by decide) (Nat.le_of_ble_eq_true rfl) d_mk2_39
  have Z7 : n0 ≤ h7.size := Nat.le_trans Z6 (Keep.of_wr W7).1
  have N7 := Fr.snoc X7 N6 ge5
  have K7 : Keep h0 h7 [] := K6.wr W7 (Or.inr sz5)
  have V7' : Arv Z h7 b5 k5 .byte (2 : Int32) [(.int (x1.toInt8.toInt32)), (.int (x2.toInt8.toInt32))] (.int (0 : Int32)) := by have q := V7; rw [own_nb] at q; exact q
  refine own_go st7 ?_
  show own_Got p e below _ T7 (mkF m 40 #[.val (.int (2 : Int32)), .val (.int x1), .val (.int x2), .val (.int x3)] [(.ref b5)])
  have f8 : Exa Z h7 b5 "[B" := (Exa.wr W7 (Exa.wr W6 B5))
  refine own_retR X7 hx hby hlk hrt rfl d_mk2_40 (by decide) (by decide) rfl ?_
  show Q_mk2 Z x1 x2 x3 h0 n0 _ T7.heap _
  rw [e7]
  exact ⟨b5, k5, rfl, N7, K7, sz5, f8, V7'⟩
theorem d_mk3_0 : decode method_2_code 0 = .ok (.iload_n 0, 1) := by decide +kernel
theorem d_mk3_1 : decode method_2_code 1 = .ok (.ifCond .ne 7, 3) := by decide +kernel
theorem d_mk3_8 : decode method_2_code 8 = .ok (.iload_n 0, 1) := by decide +kernel
theorem d_mk3_9 : decode method_2_code 9 = .ok (.iconst 1, 1) := by decide +kernel
theorem d_mk3_10 : decode method_2_code 10 = .ok (.if_icmp .ne 12, 3) := by decide +kernel
theorem d_mk3_22 : decode method_2_code 22 = .ok (.iload_n 0, 1) := by decide +kernel
theorem d_mk3_23 : decode method_2_code 23 = .ok (.iconst 2, 1) := by decide +kernel
theorem d_mk3_24 : decode method_2_code 24 = .ok (.if_icmp .ne 17, 3) := by decide +kernel
theorem d_mk3_41 : decode method_2_code 41 = .ok (.iconst 3, 1) := by decide +kernel
theorem d_mk3_42 : decode method_2_code 42 = .ok (.newarray .byte, 2) := by decide +kernel
theorem d_mk3_44 : decode method_2_code 44 = .ok (.dup, 1) := by decide +kernel
theorem d_mk3_45 : decode method_2_code 45 = .ok (.iconst 0, 1) := by decide +kernel
theorem d_mk3_46 : decode method_2_code 46 = .ok (.iload_n 1, 1) := by decide +kernel
theorem d_mk3_47 : decode method_2_code 47 = .ok (.i2b, 1) := by decide +kernel
theorem d_mk3_48 : decode method_2_code 48 = .ok (.bastore, 1) := by decide +kernel
theorem d_mk3_49 : decode method_2_code 49 = .ok (.dup, 1) := by decide +kernel
theorem d_mk3_50 : decode method_2_code 50 = .ok (.iconst 1, 1) := by decide +kernel
theorem d_mk3_51 : decode method_2_code 51 = .ok (.iload_n 2, 1) := by decide +kernel
theorem d_mk3_52 : decode method_2_code 52 = .ok (.i2b, 1) := by decide +kernel
theorem d_mk3_53 : decode method_2_code 53 = .ok (.bastore, 1) := by decide +kernel
theorem d_mk3_54 : decode method_2_code 54 = .ok (.dup, 1) := by decide +kernel
theorem d_mk3_55 : decode method_2_code 55 = .ok (.iconst 2, 1) := by decide +kernel
theorem d_mk3_56 : decode method_2_code 56 = .ok (.iload_n 3, 1) := by decide +kernel
theorem d_mk3_57 : decode method_2_code 57 = .ok (.i2b, 1) := by decide +kernel
theorem d_mk3_58 : decode method_2_code 58 = .ok (.bastore, 1) := by decide +kernel
theorem d_mk3_59 : decode method_2_code 59 = .ok (.areturn, 1) := by decide +kernel
theorem ef_mk3 (m : MethodId) (x1 : Int32) (x2 : Int32) (x3 : Int32) : entryFrame m #[(.int (3 : Int32)), (.int x1), (.int x2), (.int x3)] 4 = mkF m 0 #[.val (.int (3 : Int32)), .val (.int x1), .val (.int x2), .val (.int x3)] [] := by first | (simp [entryFrame, mkF, argsToLocals, Value.category]; done) | rfl
def Q_mk3 (Z : State) (x1 : Int32) (x2 : Int32) (x3 : Int32) (h0 : Heap) (n0 : Nat) (v : Option Value) (h : Heap) (L : List Loc) : Prop := ∃ (ob : Addr), ∃ (kk : ClassId), v = some (.ref ob) ∧ Fr n0 L ∧ Keep h0 h [] ∧ h0.size ≤ ob ∧ Exa Z h ob "[B" ∧ Arv Z h ob kk .byte (3 : Int32) [(.int (x1.toInt8.toInt32)), (.int (x2.toInt8.toInt32)), (.int (x3.toInt8.toInt32))] (.int (0 : Int32))
set_option maxRecDepth 65536 in
set_option maxHeartbeats 40000000 in
theorem rm_mk3 (l : Launch) (Z : State) (aT : Array Value) (hw : ∀ d ∈ tables_1, d.before aT Z = true) (ws : List Jvm.Cond) (x1 : Int32) (x2 : Int32) (x3 : Int32) (h0 : Heap) (n0 : Nat) (Z0 : n0 ≤ h0.size) :
    MetFree l (⟨"com/example/coppice/coppice/tree/ByteStringOfPinLaw", "make", "(IIII)[B"⟩ : MethodName) (head1 (Jvm.Cond.code (⟨"com/example/coppice/coppice/tree/ByteStringOfPinLaw", "make", "(IIII)[B"⟩ : MethodName) method_2_code 4 (some (.array .byte)) :: ws) ({ frames := 0, cells := 1, slots := 3, locals := 0 } : Room)) (fun a U => a = #[(.int (3 : Int32)), (.int x1), (.int x2), (.int x3)] ∧ Z.Warmed39 U.vm ∧ U.heap = h0) (fun _ _ _ _ _ => True) (fun _ U o U' => ∃ v L, o = .returned v ∧ Q_mk3 Z x1 x2 x3 h0 n0 v U'.heap L ∧ FrameEnd U o U' L ({ frames := 0, cells := 1, slots := 3, locals := 0 } : Room).cells ({ frames := 0, cells := 1, slots := 3, locals := 0 } : Room).slots) := by
  refine MetFree.of_bodySF (plainFor_of_name pn0) hisR ?_
  intro p e s m args below meth c s₁ Bd hml0 hP hK
  obtain ⟨rfl, hZ, hh⟩ := hP
  have hx := Bd.exec
  have hby := Bd.bytes
  have hml : c.maxLocals = 4 := hml0
  have hown : s.vm.findClass "com/example/coppice/coppice/tree/ByteStringOfPinLaw" = some m.cls := findClass_of_methodNamed Bd.named
  have hnm := (name_of_methodNamed Bd.named Bd.method).1
  have hlk := Bd.notSynchronized
  have hrt := Bd.returns
  have X0 : Stand p l e ({ frames := 0, cells := 1, slots := 3, locals := 0 } : Room) s m #[(.int (3 : Int32)), (.int x1), (.int x2), (.int x3)] below meth c s₁ [] 0 0 := Stand.of_body Bd
  have e0 : s₁.heap = h0 := by rw [← hh, Bd.state]; rfl
  have N0 := Fr.nil n0
  refine own_cast (P := own_End s (Q_mk3 Z x1 x2 x3 h0 n0) ({ frames := 0, cells := 1, slots := 3, locals := 0 } : Room).cells ({ frames := 0, cells := 1, slots := 3, locals := 0 } : Room).slots) (ef_mk3 m x1 x2 x3) ?_
  refine g_iloadN X0 hx hby d_mk3_0 rfl (rfl : 0 + 1 = 1) ?_
  refine g_ifT X0 hx hby d_mk3_1 ((if0 _ _).trans (feq (by decide : ¬ ((3 : Int32) = (0 : Int32)))).2) (by decide) (pc' := 8) (by decide) ?_
  refine g_iloadN X0 hx hby d_mk3_8 rfl (rfl : 8 + 1 = 9) ?_
  refine g_iconst X0 hx hby (1 : Int32) d_mk3_9 (by decide) (rfl : 9 + 1 = 10) ?_
  refine g_icT X0 hx hby d_mk3_10 (feq (by decide : ¬ ((3 : Int32) = (1 : Int32)))).2 (by decide) (pc' := 22) (by decide) ?_
  refine g_iloadN X0 hx hby d_mk3_22 rfl (rfl : 22 + 1 = 23) ?_
  refine g_iconst X0 hx hby (2 : Int32) d_mk3_23 (by decide) (rfl : 23 + 1 = 24) ?_
  refine g_icT X0 hx hby d_mk3_24 (feq (by decide : ¬ ((3 : Int32) = (2 : Int32)))).2 (by decide) (pc' := 41) (by decide) ?_
  refine g_iconst X0 hx hby (3 : Int32) d_mk3_41 (by decide) (rfl : 41 + 1 = 42) ?_
  obtain ⟨T9, h9, k9, X9, e9, E9, A9, B9, st9⟩ := newPE X0 hx hZ (hw _ (List.mem_of_getElem? (i := 4) rfl)) e0 (g := (mkF m 42 #[.val (.int (3 : Int32)), .val (.int x1), .val (.int x2), .val (.int x3)] [(.int (3 : Int32))])) rfl (hb hby d_mk3_42) rfl (by decide) (cap := 3) (by decide) (by decide) (by decide) (by decide) (ad := "[B") (by decide +kernel)
  obtain ⟨b9, g9⟩ : ∃ z, z = h0.size := ⟨_, rfl⟩
  rw [← g9] at A9 B9 st9
  have Z9 : n0 ≤ h9.size := Nat.le_trans Z0 E9.1
  have K9 : Keep h0 h9 [] := (Keep.refl h0 []).ext E9
  have ge9 : n0 ≤ b9 := Nat.le_trans Z0 (Nat.le_of_eq g9.symm)
  have sz9 : h0.size ≤ b9 := Nat.le_trans (Keep.refl h0 []).1 (Nat.le_of_eq g9.symm)
  have V9 : Arv Z h9 b9 k9 .byte (3 : Int32) [(.int (0 : Int32)), (.int (0 : Int32)), (.int (0 : Int32))] (.int (0 : Int32)) := (Arv.new A9 (by decide)).pad (pad_rep [] _ 3)
  refine own_go st9 ?_
  show own_Got p e below _ T9 (mkF m 44 #[.val (.int (3 : Int32)), .val (.int x1), .val (.int x2), .val (.int x3)] [(.ref b9)])
  refine g_dup X9 hx hby d_mk3_44 rfl (rfl : 44 + 1 = 45) ?_
  refine g_iconst X9 hx hby (0 : Int32) d_mk3_45 (by decide) (rfl : 45 + 1 = 46) ?_
  refine g_iloadN X9 hx hby d_mk3_46 rfl (rfl : 46 + 1 = 47) ?_
  refine g_i2b X9 hx hby d_mk3_47 (rfl : 47 + 1 = 48) ?_
  obtain ⟨T10, h10, X10, e10, W10, V10, st10⟩ := a_bastore X9 hx hby hZ e9 (ls := #[.val (.int (3 : Int32)), .val (.int x1), .val (.int x2), .val (.int x3)]) (st := [(.ref b9)]) (j := (0 : Int32)) (x1.toInt8.toInt32) 0 V9 ⟨by decide, by decide⟩ (by decide) (Nat.le_of_ble_eq_true rfl) d_mk3_48
  have Z10 : n0 ≤ h10.size := Nat.le_trans Z9 (Keep.of_wr W10).1
  have N10 := Fr.snoc X10 N0 ge9
  have K10 : Keep h0 h10 [] := K9.wr W10 (Or.inr sz9)
  have V10' : Arv Z h10 b9 k9 .byte (3 : Int32) [(.int (x1.toInt8.toInt32)), (.int (0 : Int32)), (.int (0 : Int32))] (.int (0 : Int32)) := by have q := V10; rw [own_nb] at q; exact q
  refine own_go st10 ?_
  show own_Got p e below _ T10 (mkF m 49 #[.val (.int (3 : Int32)), .val (.int x1), .val (.int x2), .val (.int x3)] [(.ref b9)])
  refine g_dup X10 hx hby d_mk3_49 rfl (rfl : 49 + 1 = 50) ?_
  refine g_iconst X10 hx hby (1 : Int32) d_mk3_50 (by decide) (rfl : 50 + 1 = 51) ?_
  refine g_iloadN X10 hx hby d_mk3_51 rfl (rfl : 51 + 1 = 52) ?_
  refine g_i2b X10 hx hby d_mk3_52 (rfl : 52 + 1 = 53) ?_
  obtain ⟨T11, h11, X11, e11, W11, V11, st11⟩ := a_bastore X10 hx hby hZ e10 (ls := #[.val (.int (3 : Int32)), .val (.int x1), .val (.int x2), .val (.int x3)]) (st := [(.ref b9)]) (j := (1 : Int32)) (x2.toInt8.toInt32) 1 V10' ⟨by decide, by decide⟩ (by decide) (Nat.le_of_ble_eq_true rfl) d_mk3_53
  have Z11 : n0 ≤ h11.size := Nat.le_trans Z10 (Keep.of_wr W11).1
  have N11 := Fr.snoc X11 N10 ge9
  have K11 : Keep h0 h11 [] := K10.wr W11 (Or.inr sz9)
  have V11' : Arv Z h11 b9 k9 .byte (3 : Int32) [(.int (x1.toInt8.toInt32)), (.int (x2.toInt8.toInt32)), (.int (0 : Int32))] (.int (0 : Int32)) := by have q := V11; rw [own_nb] at q; exact q
  refine own_go st11 ?_
  show own_Got p e below _ T11 (mkF m 54 #[.val (.int (3 : Int32)), .val (.int x1), .val (.int x2), .val (.int x3)] [(.ref b9)])
  refine g_dup X11 hx hby d_mk3_54 rfl (rfl : 54 + 1 = 55) ?_
  refine g_iconst X11 hx hby (2 : Int32) d_mk3_55 (by decide) (rfl : 55 + 1 = 56) ?_
  refine g_iloadN X11 hx hby d_mk3_56 rfl (rfl : 56 + 1 = 57) ?_
  refine g_i2b X11 hx hby d_mk3_57 (rfl : 57 + 1 = 58) ?_
  obtain ⟨T12, h12, X12, e12, W12, V12, st12⟩ := a_bastore X11 hx hby hZ e11 (ls := #[.val (.int (3 : Int32)), .val (.int x1), .val (.int x2), .val (.int x3)]) (st := [(.ref b9)]) (j := (2 : Int32)) (x3.toInt8.toInt32) 2 V11' ⟨by decide, by decide⟩ (by decide) (Nat.le_of_ble_eq_true rfl) d_mk3_58
  have Z12 : n0 ≤ h12.size := Nat.le_trans Z11 (Keep.of_wr W12).1
  have N12 := Fr.snoc X12 N11 ge9
  have K12 : Keep h0 h12 [] := K11.wr W12 (Or.inr sz9)
  have V12' : Arv Z h12 b9 k9 .byte (3 : Int32) [(.int (x1.toInt8.toInt32)), (.int (x2.toInt8.toInt32)), (.int (x3.toInt8.toInt32))] (.int (0 : Int32)) := by have q := V12; rw [own_nb] at q; exact q
  refine own_go st12 ?_
  show own_Got p e below _ T12 (mkF m 59 #[.val (.int (3 : Int32)), .val (.int x1), .val (.int x2), .val (.int x3)] [(.ref b9)])
  have f13 : Exa Z h12 b9 "[B" := (Exa.wr W12 (Exa.wr W11 (Exa.wr W10 B9)))
  refine own_retR X12 hx hby hlk hrt rfl d_mk3_59 (by decide) (by decide) rfl ?_
  show Q_mk3 Z x1 x2 x3 h0 n0 _ T12.heap _
  rw [e12]
  exact ⟨b9, k9, rfl, N12, K12, sz9, f13, V12'⟩
theorem d_ini_0 : decode prog_64_method_1_code 0 = .ok (.aload_n 0, 1) := by decide +kernel
theorem d_ini_1 : decode prog_64_method_1_code 1 = .ok (.invokespecial 1, 3) := by decide +kernel
theorem d_ini_4 : decode prog_64_method_1_code 4 = .ok (.aload_n 0, 1) := by decide +kernel
theorem d_ini_5 : decode prog_64_method_1_code 5 = .ok (.aload_n 1, 1) := by decide +kernel
theorem d_ini_6 : decode prog_64_method_1_code 6 = .ok (.putfield 7, 3) := by decide +kernel
theorem d_ini_9 : decode prog_64_method_1_code 9 = .ok (.return_, 1) := by decide +kernel
theorem pn1 : plainName "com/example/coppice/coppice/tree/ByteString" = true := by first | (simp [plainName, overriddenIn]; done) | decide +kernel
theorem ef_ini (m : MethodId) (a0 : Addr) (a1 : Addr) : entryFrame m #[(.ref a0), (.ref a1)] 2 = mkF m 0 #[.val (.ref a0), .val (.ref a1)] [] := by first | (simp [entryFrame, mkF, argsToLocals, Value.category]; done) | rfl
def Q_ini (Z : State) (a0 : Addr) (a1 : Addr) (h0 : Heap) (n0 : Nat) (v : Option Value) (h : Heap) (L : List Loc) : Prop := v = none ∧ Fr n0 L ∧ Keep h0 h [a0] ∧ Exa Z h a0 "com/example/coppice/coppice/tree/ByteString" ∧ Fld Z h a0 "com/example/coppice/coppice/tree/ByteString" "_bytes" "[B" (.ref a1)
set_option maxRecDepth 65536 in
set_option maxHeartbeats 40000000 in
theorem rm_ini (l : Launch) (Z : State) (aT : Array Value) (hw : ∀ d ∈ tables_1, d.before aT Z = true) (ws : List Jvm.Cond) (a0 : Addr) (a1 : Addr) (h0 : Heap) (n0 : Nat) (Z0 : n0 ≤ h0.size) (hp0 : Exa Z h0 a0 "com/example/coppice/coppice/tree/ByteString") (hp1 : Fld Z h0 a0 "com/example/coppice/coppice/tree/ByteString" "_bytes" "[B" .null) (hp2 : n0 ≤ a0) :
    MetFree l (⟨"com/example/coppice/coppice/tree/ByteString", "<init>", "([B)V"⟩ : MethodName) (head1 (Jvm.Cond.code (⟨"com/example/coppice/coppice/tree/ByteString", "<init>", "([B)V"⟩ : MethodName) prog_64_method_1_code 2 none :: ws) ({ frames := 1, cells := 0, slots := 0, locals := 12 } : Room)) (fun a U => a = #[(.ref a0), (.ref a1)] ∧ Z.Warmed39 U.vm ∧ U.heap = h0) (fun _ _ _ _ _ => True) (fun _ U o U' => ∃ v L, o = .returned v ∧ Q_ini Z a0 a1 h0 n0 v U'.heap L ∧ FrameEnd U o U' L ({ frames := 1, cells := 0, slots := 0, locals := 12 } : Room).cells ({ frames := 1, cells := 0, slots := 0, locals := 12 } : Room).slots) := by
  refine MetFree.of_bodySF (plainFor_of_name pn1) hisR ?_
  intro p e s m args below meth c s₁ Bd hml0 hP hK
  obtain ⟨rfl, hZ, hh⟩ := hP
  have hx := Bd.exec
  have hby := Bd.bytes
  have hml : c.maxLocals = 2 := hml0
  have hown : s.vm.findClass "com/example/coppice/coppice/tree/ByteString" = some m.cls := findClass_of_methodNamed Bd.named
  have hnm := (name_of_methodNamed Bd.named Bd.method).1
  have hlk := Bd.notSynchronized
  have hrt := Bd.returns
  have X0 : Stand p l e ({ frames := 1, cells := 0, slots := 0, locals := 12 } : Room) s m #[(.ref a0), (.ref a1)] below meth c s₁ [] 0 0 := Stand.of_body Bd
  have e0 : s₁.heap = h0 := by rw [← hh, Bd.state]; rfl
  have N0 := Fr.nil n0
  refine own_cast (P := own_End s (Q_ini Z a0 a1 h0 n0) ({ frames := 1, cells := 0, slots := 0, locals := 12 } : Room).cells ({ frames := 1, cells := 0, slots := 0, locals := 12 } : Room).slots) (ef_ini m a0 a1) ?_
  refine g_aloadN X0 hx hby d_ini_0 rfl rfl (rfl : 0 + 1 = 1) ?_
  obtain ⟨T14, X14, e14, st14⟩ := initO X0 hx hZ hown (hw _ (List.mem_of_getElem? (i := 23) rfl)) (hw _ (List.mem_of_getElem? (i := 24) rfl)) (hw _ (List.mem_of_getElem? (i := 25) rfl)) e0 (g := (mkF m 1 #[.val (.ref a0), .val (.ref a1)] [(.ref a0)])) rfl (by rw [hml]; rfl) rfl (hb hby d_ini_1) (by decide) (W := 0) (by show 2 * 0 + _ ≤ _; exact Nat.le_of_eq rfl) (by decide)
  refine own_go st14 ?_
  show own_Got p e below _ T14 (mkF m 4 #[.val (.ref a0), .val (.ref a1)] [])
  refine g_aloadN X14 hx hby d_ini_4 rfl rfl (rfl : 4 + 1 = 5) ?_
  refine g_aloadN X14 hx hby d_ini_5 rfl rfl (rfl : 5 + 1 = 6) ?_
  obtain ⟨T15, h15, X15, e15, W15, st15⟩ := putF X14 hx hZ hown (host := "") (Or.inl (hw _ (List.mem_of_getElem? (i := 26) rfl))) Via.refl e14 hp1 hp0 (Or.inr ⟨(hw _ (List.mem_of_getElem? (i := 27) rfl)), rfl, hnm⟩) (hw _ (List.mem_of_getElem? (i := 10) rfl)) (ty := (.array .byte)) (by decide) rfl rfl (g := (mkF m 6 #[.val (.ref a0), .val (.ref a1)] [(.ref a1), (.ref a0)])) rfl rfl (hb hby d_ini_6)
  have Z15 : n0 ≤ h15.size := Nat.le_trans Z0 (Keep.of_wr W15).1
  have N15 := Fr.snoc X15 N0 hp2
  have K15 : Keep h0 h15 [a0] := (Keep.refl h0 [a0]).wr W15 (Or.inl (List.mem_of_getElem? (i := 0) rfl))
  have f15 : Fld Z h15 a0 "com/example/coppice/coppice/tree/ByteString" "_bytes" "[B" (.ref a1) := Fld.same W15 hp1
  refine own_go st15 ?_
  show own_Got p e below _ T15 (mkF m 9 #[.val (.ref a0), .val (.ref a1)] [])
  have f16 : Exa Z h15 a0 "com/example/coppice/coppice/tree/ByteString" := (Exa.wr W15 hp0)
  refine own_retV X15 hx hby hlk hrt d_ini_9 (by decide) (by decide) ?_
  show Q_ini Z a0 a1 h0 n0 _ T15.heap _
  rw [e15]
  exact ⟨rfl, N15, K15, f16, f15⟩
theorem d_of0_0 : decode prog_64_method_2_code 0 = .ok (.new 8, 3) := by decide +kernel
theorem d_of0_3 : decode prog_64_method_2_code 3 = .ok (.dup, 1) := by decide +kernel
theorem d_of0_4 : decode prog_64_method_2_code 4 = .ok (.aload_n 0, 1) := by decide +kernel
theorem d_of0_5 : decode prog_64_method_2_code 5 = .ok (.invokevirtual 13, 3) := by decide +kernel
theorem d_of0_8 : decode prog_64_method_2_code 8 = .ok (.checkcast 14, 3) := by decide +kernel
theorem d_of0_11 : decode prog_64_method_2_code 11 = .ok (.invokespecial 18, 3) := by decide +kernel
theorem d_of0_14 : decode prog_64_method_2_code 14 = .ok (.areturn, 1) := by decide +kernel
theorem pd0 : parseMethodDescriptor "([B)V" = some ⟨[(.array .byte)], none⟩ := by decide +kernel
theorem ef_of0 (m : MethodId) (a0 : Addr) : entryFrame m #[(.ref a0)] 1 = mkF m 0 #[.val (.ref a0)] [] := by first | (simp [entryFrame, mkF, argsToLocals, Value.category]; done) | rfl
def Q_of0 (Z : State) (a0 : Addr) (kk : ClassId) (h0 : Heap) (n0 : Nat) (v : Option Value) (h : Heap) (L : List Loc) : Prop := ∃ (ob : Addr), ∃ (oc : Addr), v = some (.ref ob) ∧ Fr n0 L ∧ Keep h0 h [] ∧ h0.size ≤ ob ∧ Exa Z h ob "com/example/coppice/coppice/tree/ByteString" ∧ Fld Z h ob "com/example/coppice/coppice/tree/ByteString" "_bytes" "[B" (.ref oc) ∧ h0.size ≤ oc ∧ Exa Z h oc "[B" ∧ Arv Z h oc kk .byte (0 : Int32) [] (.int (0 : Int32))
set_option maxRecDepth 65536 in
set_option maxHeartbeats 40000000 in
theorem rm_of0 (l : Launch) (Z : State) (aT : Array Value) (hw : ∀ d ∈ tables_1, d.before aT Z = true) (ws : List Jvm.Cond) (a0 : Addr) (kk : ClassId) (h0 : Heap) (n0 : Nat) (Z0 : n0 ≤ h0.size) (hp0 : Exa Z h0 a0 "[B") (hp1 : Arv Z h0 a0 kk .byte (0 : Int32) [] (.int (0 : Int32))) :
    MetFree l (⟨"com/example/coppice/coppice/tree/ByteString", "of", "([B)Lcom/example/coppice/coppice/tree/ByteString;"⟩ : MethodName) (head1 (Jvm.Cond.code (⟨"com/example/coppice/coppice/tree/ByteString", "of", "([B)Lcom/example/coppice/coppice/tree/ByteString;"⟩ : MethodName) prog_64_method_2_code 1 (some (.object "com/example/coppice/coppice/tree/ByteString")) :: ws) ({ frames := 2, cells := 2, slots := 1, locals := 26 } : Room)) (fun a U => a = #[(.ref a0)] ∧ Z.Warmed39 U.vm ∧ U.heap = h0) (fun _ _ _ _ _ => True) (fun _ U o U' => ∃ v L, o = .returned v ∧ Q_of0 Z a0 kk h0 n0 v U'.heap L ∧ FrameEnd U o U' L ({ frames := 2, cells := 2, slots := 1, locals := 26 } : Room).cells ({ frames := 2, cells := 2, slots := 1, locals := 26 } : Room).slots) := by
  refine MetFree.of_bodySF (plainFor_of_name pn1) hisR ?_
  intro p e s m args below meth c s₁ Bd hml0 hP hK
  obtain ⟨rfl, hZ, hh⟩ := hP
  have hx := Bd.exec
  have hby := Bd.bytes
  have hml : c.maxLocals = 1 := hml0
  have hown : s.vm.findClass "com/example/coppice/coppice/tree/ByteString" = some m.cls := findClass_of_methodNamed Bd.named
  have hnm := (name_of_methodNamed Bd.named Bd.method).1
  have hlk := Bd.notSynchronized
  have hrt := Bd.returns
  have X0 : Stand p l e ({ frames := 2, cells := 2, slots := 1, locals := 26 } : Room) s m #[(.ref a0)] below meth c s₁ [] 0 0 := Stand.of_body Bd
  have e0 : s₁.heap = h0 := by rw [← hh, Bd.state]; rfl
  have N0 := Fr.nil n0
  refine own_cast (P := own_End s (Q_of0 Z a0 kk h0 n0) ({ frames := 2, cells := 2, slots := 1, locals := 26 } : Room).cells ({ frames := 2, cells := 2, slots := 1, locals := 26 } : Room).slots) (ef_of0 m a0) ?_
  obtain ⟨T17, h17, X17, e17, E17, A17, D17, -, st17⟩ := newO X0 hx hZ hown (hw _ (List.mem_of_getElem? (i := 9) rfl)) (hw _ (List.mem_of_getElem? (i := 10) rfl)) (hw _ (List.mem_of_getElem? (i := 7) rfl)) e0 (g := (mkF m 0 #[.val (.ref a0)] [])) rfl (hb hby d_of0_0) (by decide) (by decide)
  obtain ⟨b17, g17⟩ : ∃ z, z = h0.size := ⟨_, rfl⟩
  rw [← g17] at A17 D17 st17
  have ne18 : a0 ≠ b17 := Nat.ne_of_lt (Nat.lt_of_lt_of_le (hp0).lt (Nat.le_of_eq g17.symm))
  have Z17 : n0 ≤ h17.size := Nat.le_trans Z0 E17.1
  have K17 : Keep h0 h17 [] := (Keep.refl h0 []).ext E17
  have ge17 : n0 ≤ b17 := Nat.le_trans Z0 (Nat.le_of_eq g17.symm)
  have sz17 : h0.size ≤ b17 := Nat.le_trans (Keep.refl h0 []).1 (Nat.le_of_eq g17.symm)
  have f19 : Fld Z h17 b17 "com/example/coppice/coppice/tree/ByteString" "_bytes" "[B" .null := D17 (Or.inr (hw _ (List.mem_of_getElem? (i := 27) rfl))) (ty := (.array .byte)) (by decide)
  refine own_go st17 ?_
  show own_Got p e below _ T17 (mkF m 3 #[.val (.ref a0)] [(.ref b17)])
  refine g_dup X17 hx hby d_of0_3 rfl (rfl : 3 + 1 = 4) ?_
  refine g_aloadN X17 hx hby d_of0_4 rfl rfl (rfl : 4 + 1 = 5) ?_
  have f20 : Arv Z h17 a0 kk .byte (0 : Int32) [] (.int (0 : Int32)) := (hp1.ext E17)
  have f21 : Exa Z h17 a0 "[B" := (Exa.ext E17 hp0)
  obtain ⟨T22, h22, X22, e22, E22, V22, B22, st22⟩ := cloneH X17 hx hZ hown (hw _ (List.mem_of_getElem? (i := 11) rfl)) (hw _ (List.mem_of_getElem? (i := 12) rfl)) (hw _ (List.mem_of_getElem? (i := 16) rfl)) (hw _ (List.mem_of_getElem? (i := 14) rfl)) (hw _ (List.mem_of_getElem? (i := 15) rfl)) (hw _ (List.mem_of_getElem? (i := 17) rfl)) e17 f20.arh f21 (g := (mkF m 5 #[.val (.ref a0)] [(.ref a0), (.ref b17), (.ref b17)])) rfl (by rw [hml]; rfl) rfl (hb hby d_of0_5) (by decide) (W := 2) (by show 2 * 0 + _ ≤ _; exact Nat.le_of_eq rfl) (by decide) (cap := 0) (by decide) (by decide) (by decide)
  obtain ⟨b22, g22⟩ : ∃ z, z = h17.size := ⟨_, rfl⟩
  rw [← g22] at V22 B22 st22
  have ne23 : a0 ≠ b22 := Nat.ne_of_lt (Nat.lt_of_lt_of_le (f21).lt (Nat.le_of_eq g22.symm))
  have ne24 : b17 ≠ b22 := Nat.ne_of_lt (Nat.lt_of_lt_of_le (A17).lt (Nat.le_of_eq g22.symm))
  have Z22 : n0 ≤ h22.size := Nat.le_trans Z17 E22.1
  have K22 : Keep h0 h22 [] := K17.ext E22
  have ge22 : n0 ≤ b22 := Nat.le_trans Z17 (Nat.le_of_eq g22.symm)
  have sz22 : h0.size ≤ b22 := Nat.le_trans K17.1 (Nat.le_of_eq g22.symm)
  have V22' : Arv Z h22 b22 kk .byte (0 : Int32) [] (.int (0 : Int32)) := V22
  refine own_go st22 ?_
  show own_Got p e below _ T22 (mkF m 8 #[.val (.ref a0)] [(.ref b22), (.ref b17), (.ref b17)])
  obtain ⟨T25, X25, e25, st25⟩ := castY X22 hx hZ hown (hw _ (List.mem_of_getElem? (i := 18) rfl)) e22 (Ins.self B22) (g := (mkF m 8 #[.val (.ref a0)] [(.ref b22), (.ref b17), (.ref b17)])) rfl rfl (hb hby d_of0_8)
  refine own_go st25 ?_
  show own_Got p e below _ T25 (mkF m 11 #[.val (.ref a0)] [(.ref b22), (.ref b17), (.ref b17)])
  have f27 : Exa Z h22 b17 "com/example/coppice/coppice/tree/ByteString" := (Exa.ext E22 A17)
  have f28 : Fld Z h22 b17 "com/example/coppice/coppice/tree/ByteString" "_bytes" "[B" .null := (Fld.ext E22 f19)
  have f29 : Exa Z h22 a0 "[B" := (Exa.ext E22 f21)
  obtain ⟨_, _, ⟨T26, L26, k26, n26⟩, -, X26, ⟨Lc26, hQ26, l26, y26, z26⟩, st26⟩ := X25.specialBack hx (y := (⟨"com/example/coppice/coppice/tree/ByteString", "<init>", "([B)V"⟩ : MethodName)) rfl hown (mvT hZ (hw _ (List.mem_of_getElem? (i := 20) rfl))) (mvT hZ (hw _ (List.mem_of_getElem? (i := 21) rfl))) (mvT hZ (hw _ (List.mem_of_getElem? (i := 22) rfl))) (by decide) (backOf (W := 1) (rm_ini l Z aT hw [] b17 b22 h22 n0 Z22 f27 f28 ge17) hZ (hw _ (List.mem_of_getElem? (i := 22) rfl)) (hw _ (List.mem_of_getElem? (i := 7) rfl)) (by decide) (by decide)) (g := (mkF m 11 #[.val (.ref a0)] [(.ref b22), (.ref b17), (.ref b17)])) rfl (by rw [hml]; rfl) (Steps.refl _) (a := b17) (argsL := [(.ref b22)]) (rest := [(.ref b17)]) (lenOf pd0 rfl) rfl (by show 2 * 0 + _ ≤ _; exact Nat.le_of_eq rfl) (hb hby d_of0_11) (fun _ _ => ⟨rfl, e25, (by decide : 2 + 0 ≤ _), (by decide : 1 + 0 ≤ _)⟩)
  dsimp only [Pt.U, Pt.locs, Pt.cells, Pt.slots] at X26 l26 y26 z26 st26 hQ26
  subst l26 y26 z26
  obtain ⟨rfl, N26q, K26, q26_0, q26_1⟩ := hQ26
  have N26 := Fr.app N0 N26q
  have Z26 : n0 ≤ T26.heap.size := Nat.le_trans Z22 K26.1
  have KC26 : Keep h0 T26.heap [] := K22.trans K26 (allS (Or.inr sz17) all0)
  refine own_tr st26 ?_
  show own_Got p e below _ T26 (mkF m 14 #[.val (.ref a0)] [(.ref b17)])
  have f30 : Exa Z T26.heap b22 "[B" := (Exa.keep B22 K26)
  have f31 : Arv Z T26.heap b22 kk .byte (0 : Int32) [] (.int (0 : Int32)) := (Arv.keep V22' K26 (ninS (Ne.symm ne24) nin0))
  refine own_retR X26 hx hby hlk hrt rfl d_of0_14 (by decide) (by decide) rfl ?_
  show Q_of0 Z a0 kk h0 n0 _ T26.heap _
  exact ⟨b17, b22, rfl, N26, KC26, sz17, q26_0, q26_1, sz22, f30, f31⟩
theorem d_ta0_0 : decode prog_64_method_6_code 0 = .ok (.aload_n 0, 1) := by decide +kernel
theorem d_ta0_1 : decode prog_64_method_6_code 1 = .ok (.getfield 7, 3) := by decide +kernel
theorem d_ta0_4 : decode prog_64_method_6_code 4 = .ok (.invokevirtual 13, 3) := by decide +kernel
theorem d_ta0_7 : decode prog_64_method_6_code 7 = .ok (.checkcast 14, 3) := by decide +kernel
theorem d_ta0_10 : decode prog_64_method_6_code 10 = .ok (.areturn, 1) := by decide +kernel
theorem ef_ta0 (m : MethodId) (a0 : Addr) : entryFrame m #[(.ref a0)] 1 = mkF m 0 #[.val (.ref a0)] [] := by first | (simp [entryFrame, mkF, argsToLocals, Value.category]; done) | rfl
def Q_ta0 (Z : State) (a0 : Addr) (c0 : Addr) (kk : ClassId) (h0 : Heap) (n0 : Nat) (v : Option Value) (h : Heap) (L : List Loc) : Prop := ∃ (oc : Addr), v = some (.ref oc) ∧ Fr n0 L ∧ Keep h0 h [] ∧ h0.size ≤ oc ∧ Exa Z h oc "[B" ∧ Arv Z h oc kk .byte (0 : Int32) [] (.int (0 : Int32))
set_option maxRecDepth 65536 in
set_option maxHeartbeats 40000000 in
theorem rm_ta0 (l : Launch) (Z : State) (aT : Array Value) (hw : ∀ d ∈ tables_1, d.before aT Z = true) (ws : List Jvm.Cond) (a0 : Addr) (c0 : Addr) (kk : ClassId) (h0 : Heap) (n0 : Nat) (Z0 : n0 ≤ h0.size) (hp0 : Fld Z h0 a0 "com/example/coppice/coppice/tree/ByteString" "_bytes" "[B" (.ref c0)) (hp1 : Exa Z h0 c0 "[B") (hp2 : Arv Z h0 c0 kk .byte (0 : Int32) [] (.int (0 : Int32))) :
    MetFree l (⟨"com/example/coppice/coppice/tree/ByteString", "toByteArray", "()[B"⟩ : MethodName) (head1 (Jvm.Cond.code (⟨"com/example/coppice/coppice/tree/ByteString", "toByteArray", "()[B"⟩ : MethodName) prog_64_method_6_code 1 (some (.array .byte)) :: ws) ({ frames := 1, cells := 1, slots := 0, locals := 14 } : Room)) (fun a U => a = #[(.ref a0)] ∧ Z.Warmed39 U.vm ∧ U.heap = h0) (fun _ _ _ _ _ => True) (fun _ U o U' => ∃ v L, o = .returned v ∧ Q_ta0 Z a0 c0 kk h0 n0 v U'.heap L ∧ FrameEnd U o U' L ({ frames := 1, cells := 1, slots := 0, locals := 14 } : Room).cells ({ frames := 1, cells := 1, slots := 0, locals := 14 } : Room).slots) := by
  refine MetFree.of_bodySF (plainFor_of_name pn1) hisR ?_
  intro p e s m args below meth c s₁ Bd hml0 hP hK
  obtain ⟨rfl, hZ, hh⟩ := hP
  have hx := Bd.exec
  have hby := Bd.bytes
  have hml : c.maxLocals = 1 := hml0
  have hown : s.vm.findClass "com/example/coppice/coppice/tree/ByteString" = some m.cls := findClass_of_methodNamed Bd.named
  have hnm := (name_of_methodNamed Bd.named Bd.method).1
  have hlk := Bd.notSynchronized
  have hrt := Bd.returns
  have X0 : Stand p l e ({ frames := 1, cells := 1, slots := 0, locals := 14 } : Room) s m #[(.ref a0)] below meth c s₁ [] 0 0 := Stand.of_body Bd
  have e0 : s₁.heap = h0 := by rw [← hh, Bd.state]; rfl
  have N0 := Fr.nil n0
  refine own_cast (P := own_End s (Q_ta0 Z a0 c0 kk h0 n0) ({ frames := 1, cells := 1, slots := 0, locals := 14 } : Room).cells ({ frames := 1, cells := 1, slots := 0, locals := 14 } : Room).slots) (ef_ta0 m a0) ?_
  refine g_aloadN X0 hx hby d_ta0_0 rfl rfl (rfl : 0 + 1 = 1) ?_
  obtain ⟨T32, X32, e32, st32⟩ := getF X0 hx hZ hown (host := "") (Or.inl (hw _ (List.mem_of_getElem? (i := 26) rfl))) Via.refl e0 hp0 (g := (mkF m 1 #[.val (.ref a0)] [(.ref a0)])) rfl rfl (hb hby d_ta0_1)
  refine own_go st32 ?_
  show own_Got p e below _ T32 (mkF m 4 #[.val (.ref a0)] [(.ref c0)])
  obtain ⟨T33, h33, X33, e33, E33, V33, B33, st33⟩ := cloneH X32 hx hZ hown (hw _ (List.mem_of_getElem? (i := 11) rfl)) (hw _ (List.mem_of_getElem? (i := 12) rfl)) (hw _ (List.mem_of_getElem? (i := 16) rfl)) (hw _ (List.mem_of_getElem? (i := 14) rfl)) (hw _ (List.mem_of_getElem? (i := 15) rfl)) (hw _ (List.mem_of_getElem? (i := 17) rfl)) e32 hp2.arh hp1 (g := (mkF m 4 #[.val (.ref a0)] [(.ref c0)])) rfl (by rw [hml]; rfl) rfl (hb hby d_ta0_4) (by decide) (W := 0) (by show 2 * 0 + _ ≤ _; exact Nat.le_of_eq rfl) (by decide) (cap := 0) (by decide) (by decide) (by decide)
  obtain ⟨b33, g33⟩ : ∃ z, z = h0.size := ⟨_, rfl⟩
  rw [← g33] at V33 B33 st33
  have ne34 : a0 ≠ b33 := Nat.ne_of_lt (Nat.lt_of_lt_of_le (hp0).lt (Nat.le_of_eq g33.symm))
  have ne35 : c0 ≠ b33 := Nat.ne_of_lt (Nat.lt_of_lt_of_le (hp1).lt (Nat.le_of_eq g33.symm))
  have Z33 : n0 ≤ h33.size := Nat.le_trans Z0 E33.1
  have K33 : Keep h0 h33 [] := (Keep.refl h0 []).ext E33
  have ge33 : n0 ≤ b33 := Nat.le_trans Z0 (Nat.le_of_eq g33.symm)
  have sz33 : h0.size ≤ b33 := Nat.le_trans (Keep.refl h0 []).1 (Nat.le_of_eq g33.symm)
  have V33' : Arv Z h33 b33 kk .byte (0 : Int32) [] (.int (0 : Int32)) := V33
  refine own_go st33 ?_
  show own_Got p e below _ T33 (mkF m 7 #[.val (.ref a0)] [(.ref b33)])
  obtain ⟨T36, X36, e36, st36⟩ := castY X33 hx hZ hown (hw _ (List.mem_of_getElem? (i := 18) rfl)) e33 (Ins.self B33) (g := (mkF m 7 #[.val (.ref a0)] [(.ref b33)])) rfl rfl (hb hby d_ta0_7)
  refine own_go st36 ?_
  show own_Got p e below _ T36 (mkF m 10 #[.val (.ref a0)] [(.ref b33)])
  refine own_retR X36 hx hby hlk hrt rfl d_ta0_10 (by decide) (by decide) rfl ?_
  show Q_ta0 Z a0 c0 kk h0 n0 _ T36.heap _
  rw [e36]
  exact ⟨b33, rfl, N0, K33, sz33, B33, V33'⟩
theorem d_hd0_0 : decode method_3_code 0 = .ok (.aload_n 0, 1) := by decide +kernel
theorem d_hd0_1 : decode method_3_code 1 = .ok (.arraylength, 1) := by decide +kernel
theorem d_hd0_2 : decode method_3_code 2 = .ok (.iload_n 1, 1) := by decide +kernel
theorem d_hd0_3 : decode method_3_code 3 = .ok (.if_icmp .eq 5, 3) := by decide +kernel
theorem d_hd0_8 : decode method_3_code 8 = .ok (.iload_n 1, 1) := by decide +kernel
theorem d_hd0_9 : decode method_3_code 9 = .ok (.iconst 1, 1) := by decide +kernel
theorem d_hd0_10 : decode method_3_code 10 = .ok (.if_icmp .lt 13, 3) := by decide +kernel
theorem d_hd0_23 : decode method_3_code 23 = .ok (.iload_n 1, 1) := by decide +kernel
theorem d_hd0_24 : decode method_3_code 24 = .ok (.iconst 2, 1) := by decide +kernel
theorem d_hd0_25 : decode method_3_code 25 = .ok (.if_icmp .lt 13, 3) := by decide +kernel
theorem d_hd0_38 : decode method_3_code 38 = .ok (.iload_n 1, 1) := by decide +kernel
theorem d_hd0_39 : decode method_3_code 39 = .ok (.iconst 3, 1) := by decide +kernel
theorem d_hd0_40 : decode method_3_code 40 = .ok (.if_icmp .lt 14, 3) := by decide +kernel
theorem d_hd0_54 : decode method_3_code 54 = .ok (.iconst 1, 1) := by decide +kernel
theorem d_hd0_55 : decode method_3_code 55 = .ok (.ireturn, 1) := by decide +kernel
theorem ef_hd0 (m : MethodId) (a0 : Addr) (x2 : Int32) (x3 : Int32) (x4 : Int32) : entryFrame m #[(.ref a0), (.int (0 : Int32)), (.int x2), (.int x3), (.int x4)] 5 = mkF m 0 #[.val (.ref a0), .val (.int (0 : Int32)), .val (.int x2), .val (.int x3), .val (.int x4)] [] := by first | (simp [entryFrame, mkF, argsToLocals, Value.category]; done) | rfl
def Q_hd0 (Z : State) (a0 : Addr) (x2 : Int32) (x3 : Int32) (x4 : Int32) (kk : ClassId) (h0 : Heap) (n0 : Nat) (v : Option Value) (h : Heap) (L : List Loc) : Prop := v = some (.int (1 : Int32)) ∧ Fr n0 L ∧ h = h0
set_option maxRecDepth 65536 in
set_option maxHeartbeats 40000000 in
theorem rm_hd0 (l : Launch) (Z : State) (aT : Array Value) (hw : ∀ d ∈ tables_1, d.before aT Z = true) (ws : List Jvm.Cond) (a0 : Addr) (x2 : Int32) (x3 : Int32) (x4 : Int32) (kk : ClassId) (h0 : Heap) (n0 : Nat) (Z0 : n0 ≤ h0.size) (hp0 : Arv Z h0 a0 kk .byte (0 : Int32) [] (.int (0 : Int32))) :
    MetFree l (⟨"com/example/coppice/coppice/tree/ByteStringOfPinLaw", "holds", "([BIIII)Z"⟩ : MethodName) (head1 (Jvm.Cond.code (⟨"com/example/coppice/coppice/tree/ByteStringOfPinLaw", "holds", "([BIIII)Z"⟩ : MethodName) method_3_code 5 (some .boolean) :: ws) ({ frames := 0, cells := 0, slots := 0, locals := 0 } : Room)) (fun a U => a = #[(.ref a0), (.int (0 : Int32)), (.int x2), (.int x3), (.int x4)] ∧ Z.Warmed39 U.vm ∧ U.heap = h0) (fun _ _ _ _ _ => True) (fun _ U o U' => ∃ v L, o = .returned v ∧ Q_hd0 Z a0 x2 x3 x4 kk h0 n0 v U'.heap L ∧ FrameEnd U o U' L ({ frames := 0, cells := 0, slots := 0, locals := 0 } : Room).cells ({ frames := 0, cells := 0, slots := 0, locals := 0 } : Room).slots) := by
  refine MetFree.of_bodySF (plainFor_of_name pn0) hisR ?_
  intro p e s m args below meth c s₁ Bd hml0 hP hK
  obtain ⟨rfl, hZ, hh⟩ := hP
  have hx := Bd.exec
  have hby := Bd.bytes
  have hml : c.maxLocals = 5 := hml0
  have hown : s.vm.findClass "com/example/coppice/coppice/tree/ByteStringOfPinLaw" = some m.cls := findClass_of_methodNamed Bd.named
  have hnm := (name_of_methodNamed Bd.named Bd.method).1
  have hlk := Bd.notSynchronized
  have hrt := Bd.returns
  have X0 : Stand p l e ({ frames := 0, cells := 0, slots := 0, locals := 0 } : Room) s m #[(.ref a0), (.int (0 : Int32)), (.int x2), (.int x3), (.int x4)] below meth c s₁ [] 0 0 := Stand.of_body Bd
  have e0 : s₁.heap = h0 := by rw [← hh, Bd.state]; rfl
  have N0 := Fr.nil n0
  refine own_cast (P := own_End s (Q_hd0 Z a0 x2 x3 x4 kk h0 n0) ({ frames := 0, cells := 0, slots := 0, locals := 0 } : Room).cells ({ frames := 0, cells := 0, slots := 0, locals := 0 } : Room).slots) (ef_hd0 m a0 x2 x3 x4) ?_
  refine g_aloadN X0 hx hby d_hd0_0 rfl rfl (rfl : 0 + 1 = 1) ?_
  refine g_alen X0 hx hby hZ e0 hp0 d_hd0_1 (rfl : 1 + 1 = 2) ?_
  refine g_iloadN X0 hx hby d_hd0_2 rfl (rfl : 2 + 1 = 3) ?_
  refine g_icT X0 hx hby d_hd0_3 (teq (by decide : (0 : Int32) = (0 : Int32))).1 (by decide) (pc' := 8) (by decide) ?_
  refine g_iloadN X0 hx hby d_hd0_8 rfl (rfl : 8 + 1 = 9) ?_
  refine g_iconst X0 hx hby (1 : Int32) d_hd0_9 (by decide) (rfl : 9 + 1 = 10) ?_
  refine g_icT X0 hx hby d_hd0_10 (tlt (by decide : (0 : Int32) < (1 : Int32))).1 (by decide) (pc' := 23) (by decide) ?_
  refine g_iloadN X0 hx hby d_hd0_23 rfl (rfl : 23 + 1 = 24) ?_
  refine g_iconst X0 hx hby (2 : Int32) d_hd0_24 (by decide) (rfl : 24 + 1 = 25) ?_
  refine g_icT X0 hx hby d_hd0_25 (tlt (by decide : (0 : Int32) < (2 : Int32))).1 (by decide) (pc' := 38) (by decide) ?_
  refine g_iloadN X0 hx hby d_hd0_38 rfl (rfl : 38 + 1 = 39) ?_
  refine g_iconst X0 hx hby (3 : Int32) d_hd0_39 (by decide) (rfl : 39 + 1 = 40) ?_
  refine g_icT X0 hx hby d_hd0_40 (tlt (by decide : (0 : Int32) < (3 : Int32))).1 (by decide) (pc' := 54) (by decide) ?_
  refine g_iconst X0 hx hby (1 : Int32) d_hd0_54 (by decide) (rfl : 54 + 1 = 55) ?_
  refine own_retN X0 hx hby hlk (t := .boolean) hrt (by simp) d_hd0_55 (by decide) (by decide) ?_
  show Q_hd0 Z a0 x2 x3 x4 kk h0 n0 _ s₁.heap _
  exact ⟨rfl, N0, e0⟩
theorem d_of1_0 : decode prog_64_method_2_code 0 = .ok (.new 8, 3) := by decide +kernel
theorem d_of1_3 : decode prog_64_method_2_code 3 = .ok (.dup, 1) := by decide +kernel
theorem d_of1_4 : decode prog_64_method_2_code 4 = .ok (.aload_n 0, 1) := by decide +kernel
theorem d_of1_5 : decode prog_64_method_2_code 5 = .ok (.invokevirtual 13, 3) := by decide +kernel
theorem d_of1_8 : decode prog_64_method_2_code 8 = .ok (.checkcast 14, 3) := by decide +kernel
theorem d_of1_11 : decode prog_64_method_2_code 11 = .ok (.invokespecial 18, 3) := by decide +kernel
theorem d_of1_14 : decode prog_64_method_2_code 14 = .ok (.areturn, 1) := by decide +kernel
theorem ef_of1 (m : MethodId) (a0 : Addr) : entryFrame m #[(.ref a0)] 1 = mkF m 0 #[.val (.ref a0)] [] := by first | (simp [entryFrame, mkF, argsToLocals, Value.category]; done) | rfl
def Q_of1 (Z : State) (a0 : Addr) (kk : ClassId) (u0 : Int32) (h0 : Heap) (n0 : Nat) (v : Option Value) (h : Heap) (L : List Loc) : Prop := ∃ (ob : Addr), ∃ (oc : Addr), v = some (.ref ob) ∧ Fr n0 L ∧ Keep h0 h [] ∧ h0.size ≤ ob ∧ Exa Z h ob "com/example/coppice/coppice/tree/ByteString" ∧ Fld Z h ob "com/example/coppice/coppice/tree/ByteString" "_bytes" "[B" (.ref oc) ∧ h0.size ≤ oc ∧ Exa Z h oc "[B" ∧ Arv Z h oc kk .byte (1 : Int32) [(.int u0)] (.int (0 : Int32))
set_option maxRecDepth 65536 in
set_option maxHeartbeats 40000000 in
theorem rm_of1 (l : Launch) (Z : State) (aT : Array Value) (hw : ∀ d ∈ tables_1, d.before aT Z = true) (ws : List Jvm.Cond) (a0 : Addr) (kk : ClassId) (u0 : Int32) (h0 : Heap) (n0 : Nat) (Z0 : n0 ≤ h0.size) (hp0 : Exa Z h0 a0 "[B") (hp1 : Arv Z h0 a0 kk .byte (1 : Int32) [(.int u0)] (.int (0 : Int32))) :
    MetFree l (⟨"com/example/coppice/coppice/tree/ByteString", "of", "([B)Lcom/example/coppice/coppice/tree/ByteString;"⟩ : MethodName) (head1 (Jvm.Cond.code (⟨"com/example/coppice/coppice/tree/ByteString", "of", "([B)Lcom/example/coppice/coppice/tree/ByteString;"⟩ : MethodName) prog_64_method_2_code 1 (some (.object "com/example/coppice/coppice/tree/ByteString")) :: ws) ({ frames := 2, cells := 2, slots := 2, locals := 26 } : Room)) (fun a U => a = #[(.ref a0)] ∧ Z.Warmed39 U.vm ∧ U.heap = h0) (fun _ _ _ _ _ => True) (fun _ U o U' => ∃ v L, o = .returned v ∧ Q_of1 Z a0 kk u0 h0 n0 v U'.heap L ∧ FrameEnd U o U' L ({ frames := 2, cells := 2, slots := 2, locals := 26 } : Room).cells ({ frames := 2, cells := 2, slots := 2, locals := 26 } : Room).slots) := by
  refine MetFree.of_bodySF (plainFor_of_name pn1) hisR ?_
  intro p e s m args below meth c s₁ Bd hml0 hP hK
  obtain ⟨rfl, hZ, hh⟩ := hP
  have hx := Bd.exec
  have hby := Bd.bytes
  have hml : c.maxLocals = 1 := hml0
  have hown : s.vm.findClass "com/example/coppice/coppice/tree/ByteString" = some m.cls := findClass_of_methodNamed Bd.named
  have hnm := (name_of_methodNamed Bd.named Bd.method).1
  have hlk := Bd.notSynchronized
  have hrt := Bd.returns
  have X0 : Stand p l e ({ frames := 2, cells := 2, slots := 2, locals := 26 } : Room) s m #[(.ref a0)] below meth c s₁ [] 0 0 := Stand.of_body Bd
  have e0 : s₁.heap = h0 := by rw [← hh, Bd.state]; rfl
  have N0 := Fr.nil n0
  refine own_cast (P := own_End s (Q_of1 Z a0 kk u0 h0 n0) ({ frames := 2, cells := 2, slots := 2, locals := 26 } : Room).cells ({ frames := 2, cells := 2, slots := 2, locals := 26 } : Room).slots) (ef_of1 m a0) ?_
  obtain ⟨T37, h37, X37, e37, E37, A37, D37, -, st37⟩ := newO X0 hx hZ hown (hw _ (List.mem_of_getElem? (i := 9) rfl)) (hw _ (List.mem_of_getElem? (i := 10) rfl)) (hw _ (List.mem_of_getElem? (i := 7) rfl)) e0 (g := (mkF m 0 #[.val (.ref a0)] [])) rfl (hb hby d_of1_0) (by decide) (by decide)
  obtain ⟨b37, g37⟩ : ∃ z, z = h0.size := ⟨_, rfl⟩
  rw [← g37] at A37 D37 st37
  have ne38 : a0 ≠ b37 := Nat.ne_of_lt (Nat.lt_of_lt_of_le (hp0).lt (Nat.le_of_eq g37.symm))
  have Z37 : n0 ≤ h37.size := Nat.le_trans Z0 E37.1
  have K37 : Keep h0 h37 [] := (Keep.refl h0 []).ext E37
  have ge37 : n0 ≤ b37 := Nat.le_trans Z0 (Nat.le_of_eq g37.symm)
  have sz37 : h0.size ≤ b37 := Nat.le_trans (Keep.refl h0 []).1 (Nat.le_of_eq g37.symm)
  have f39 : Fld Z h37 b37 "com/example/coppice/coppice/tree/ByteString" "_bytes" "[B" .null := D37 (Or.inr (hw _ (List.mem_of_getElem? (i := 27) rfl))) (ty := (.array .byte)) (by decide)
  refine own_go st37 ?_
  show own_Got p e below _ T37 (mkF m 3 #[.val (.ref a0)] [(.ref b37)])
  refine g_dup X37 hx hby d_of1_3 rfl (rfl : 3 + 1 = 4) ?_
  refine g_aloadN X37 hx hby d_of1_4 rfl rfl (rfl : 4 + 1 = 5) ?_
  have f40 : Arv Z h37 a0 kk .byte (1 : Int32) [(.int u0)] (.int (0 : Int32)) := (hp1.ext E37)
  have f41 : Exa Z h37 a0 "[B" := (Exa.ext E37 hp0)
  obtain ⟨T42, h42, X42, e42, E42, V42, B42, st42⟩ := cloneH X37 hx hZ hown (hw _ (List.mem_of_getElem? (i := 11) rfl)) (hw _ (List.mem_of_getElem? (i := 12) rfl)) (hw _ (List.mem_of_getElem? (i := 16) rfl)) (hw _ (List.mem_of_getElem? (i := 14) rfl)) (hw _ (List.mem_of_getElem? (i := 15) rfl)) (hw _ (List.mem_of_getElem? (i := 17) rfl)) e37 f40.arh f41 (g := (mkF m 5 #[.val (.ref a0)] [(.ref a0), (.ref b37), (.ref b37)])) rfl (by rw [hml]; rfl) rfl (hb hby d_of1_5) (by decide) (W := 2) (by show 2 * 0 + _ ≤ _; exact Nat.le_of_eq rfl) (by decide) (cap := 1) (by decide) (by decide) (by decide)
  obtain ⟨b42, g42⟩ : ∃ z, z = h37.size := ⟨_, rfl⟩
  rw [← g42] at V42 B42 st42
  have ne43 : a0 ≠ b42 := Nat.ne_of_lt (Nat.lt_of_lt_of_le (f41).lt (Nat.le_of_eq g42.symm))
  have ne44 : b37 ≠ b42 := Nat.ne_of_lt (Nat.lt_of_lt_of_le (A37).lt (Nat.le_of_eq g42.symm))
  have Z42 : n0 ≤ h42.size := Nat.le_trans Z37 E42.1
  have K42 : Keep h0 h42 [] := K37.ext E42
  have ge42 : n0 ≤ b42 := Nat.le_trans Z37 (Nat.le_of_eq g42.symm)
  have sz42 : h0.size ≤ b42 := Nat.le_trans K37.1 (Nat.le_of_eq g42.symm)
  have V42' : Arv Z h42 b42 kk .byte (1 : Int32) [(.int u0)] (.int (0 : Int32)) := V42
  refine own_go st42 ?_
  show own_Got p e below _ T42 (mkF m 8 #[.val (.ref a0)] [(.ref b42), (.ref b37), (.ref b37)])
  obtain ⟨T45, X45, e45, st45⟩ := castY X42 hx hZ hown (hw _ (List.mem_of_getElem? (i := 18) rfl)) e42 (Ins.self B42) (g := (mkF m 8 #[.val (.ref a0)] [(.ref b42), (.ref b37), (.ref b37)])) rfl rfl (hb hby d_of1_8)
  refine own_go st45 ?_
  show own_Got p e below _ T45 (mkF m 11 #[.val (.ref a0)] [(.ref b42), (.ref b37), (.ref b37)])
  have f47 : Exa Z h42 b37 "com/example/coppice/coppice/tree/ByteString" := (Exa.ext E42 A37)
  have f48 : Fld Z h42 b37 "com/example/coppice/coppice/tree/ByteString" "_bytes" "[B" .null := (Fld.ext E42 f39)
  have f49 : Exa Z h42 a0 "[B" := (Exa.ext E42 f41)
  obtain ⟨_, _, ⟨T46, L46, k46, n46⟩, -, X46, ⟨Lc46, hQ46, l46, y46, z46⟩, st46⟩ := X45.specialBack hx (y := (⟨"com/example/coppice/coppice/tree/ByteString", "<init>", "([B)V"⟩ : MethodName)) rfl hown (mvT hZ (hw _ (List.mem_of_getElem? (i := 20) rfl))) (mvT hZ (hw _ (List.mem_of_getElem? (i := 21) rfl))) (mvT hZ (hw _ (List.mem_of_getElem? (i := 22) rfl))) (by decide) (backOf (W := 1) (rm_ini l Z aT hw [] b37 b42 h42 n0 Z42 f47 f48 ge37) hZ (hw _ (List.mem_of_getElem? (i := 22) rfl)) (hw _ (List.mem_of_getElem? (i := 7) rfl)) (by decide) (by decide)) (g := (mkF m 11 #[.val (.ref a0)] [(.ref b42), (.ref b37), (.ref b37)])) rfl (by rw [hml]; rfl) (Steps.refl _) (a := b37) (argsL := [(.ref b42)]) (rest := [(.ref b37)]) (lenOf pd0 rfl) rfl (by show 2 * 0 + _ ≤ _; exact Nat.le_of_eq rfl) (hb hby d_of1_11) (fun _ _ => ⟨rfl, e45, (by decide : 2 + 0 ≤ _), (by decide : 2 + 0 ≤ _)⟩)
  dsimp only [Pt.U, Pt.locs, Pt.cells, Pt.slots] at X46 l46 y46 z46 st46 hQ46
  subst l46 y46 z46
  obtain ⟨rfl, N46q, K46, q46_0, q46_1⟩ := hQ46
  have N46 := Fr.app N0 N46q
  have Z46 : n0 ≤ T46.heap.size := Nat.le_trans Z42 K46.1
  have KC46 : Keep h0 T46.heap [] := K42.trans K46 (allS (Or.inr sz37) all0)
  refine own_tr st46 ?_
  show own_Got p e below _ T46 (mkF m 14 #[.val (.ref a0)] [(.ref b37)])
  have f50 : Exa Z T46.heap b42 "[B" := (Exa.keep B42 K46)
  have f51 : Arv Z T46.heap b42 kk .byte (1 : Int32) [(.int u0)] (.int (0 : Int32)) := (Arv.keep V42' K46 (ninS (Ne.symm ne44) nin0))
  refine own_retR X46 hx hby hlk hrt rfl d_of1_14 (by decide) (by decide) rfl ?_
  show Q_of1 Z a0 kk u0 h0 n0 _ T46.heap _
  exact ⟨b37, b42, rfl, N46, KC46, sz37, q46_0, q46_1, sz42, f50, f51⟩
theorem d_ta1_0 : decode prog_64_method_6_code 0 = .ok (.aload_n 0, 1) := by decide +kernel
theorem d_ta1_1 : decode prog_64_method_6_code 1 = .ok (.getfield 7, 3) := by decide +kernel
theorem d_ta1_4 : decode prog_64_method_6_code 4 = .ok (.invokevirtual 13, 3) := by decide +kernel
theorem d_ta1_7 : decode prog_64_method_6_code 7 = .ok (.checkcast 14, 3) := by decide +kernel
theorem d_ta1_10 : decode prog_64_method_6_code 10 = .ok (.areturn, 1) := by decide +kernel
theorem ef_ta1 (m : MethodId) (a0 : Addr) : entryFrame m #[(.ref a0)] 1 = mkF m 0 #[.val (.ref a0)] [] := by first | (simp [entryFrame, mkF, argsToLocals, Value.category]; done) | rfl
def Q_ta1 (Z : State) (a0 : Addr) (c0 : Addr) (kk : ClassId) (u0 : Int32) (h0 : Heap) (n0 : Nat) (v : Option Value) (h : Heap) (L : List Loc) : Prop := ∃ (oc : Addr), v = some (.ref oc) ∧ Fr n0 L ∧ Keep h0 h [] ∧ h0.size ≤ oc ∧ Exa Z h oc "[B" ∧ Arv Z h oc kk .byte (1 : Int32) [(.int u0)] (.int (0 : Int32))
set_option maxRecDepth 65536 in
set_option maxHeartbeats 40000000 in
theorem rm_ta1 (l : Launch) (Z : State) (aT : Array Value) (hw : ∀ d ∈ tables_1, d.before aT Z = true) (ws : List Jvm.Cond) (a0 : Addr) (c0 : Addr) (kk : ClassId) (u0 : Int32) (h0 : Heap) (n0 : Nat) (Z0 : n0 ≤ h0.size) (hp0 : Fld Z h0 a0 "com/example/coppice/coppice/tree/ByteString" "_bytes" "[B" (.ref c0)) (hp1 : Exa Z h0 c0 "[B") (hp2 : Arv Z h0 c0 kk .byte (1 : Int32) [(.int u0)] (.int (0 : Int32))) :
    MetFree l (⟨"com/example/coppice/coppice/tree/ByteString", "toByteArray", "()[B"⟩ : MethodName) (head1 (Jvm.Cond.code (⟨"com/example/coppice/coppice/tree/ByteString", "toByteArray", "()[B"⟩ : MethodName) prog_64_method_6_code 1 (some (.array .byte)) :: ws) ({ frames := 1, cells := 1, slots := 1, locals := 14 } : Room)) (fun a U => a = #[(.ref a0)] ∧ Z.Warmed39 U.vm ∧ U.heap = h0) (fun _ _ _ _ _ => True) (fun _ U o U' => ∃ v L, o = .returned v ∧ Q_ta1 Z a0 c0 kk u0 h0 n0 v U'.heap L ∧ FrameEnd U o U' L ({ frames := 1, cells := 1, slots := 1, locals := 14 } : Room).cells ({ frames := 1, cells := 1, slots := 1, locals := 14 } : Room).slots) := by
  refine MetFree.of_bodySF (plainFor_of_name pn1) hisR ?_
  intro p e s m args below meth c s₁ Bd hml0 hP hK
  obtain ⟨rfl, hZ, hh⟩ := hP
  have hx := Bd.exec
  have hby := Bd.bytes
  have hml : c.maxLocals = 1 := hml0
  have hown : s.vm.findClass "com/example/coppice/coppice/tree/ByteString" = some m.cls := findClass_of_methodNamed Bd.named
  have hnm := (name_of_methodNamed Bd.named Bd.method).1
  have hlk := Bd.notSynchronized
  have hrt := Bd.returns
  have X0 : Stand p l e ({ frames := 1, cells := 1, slots := 1, locals := 14 } : Room) s m #[(.ref a0)] below meth c s₁ [] 0 0 := Stand.of_body Bd
  have e0 : s₁.heap = h0 := by rw [← hh, Bd.state]; rfl
  have N0 := Fr.nil n0
  refine own_cast (P := own_End s (Q_ta1 Z a0 c0 kk u0 h0 n0) ({ frames := 1, cells := 1, slots := 1, locals := 14 } : Room).cells ({ frames := 1, cells := 1, slots := 1, locals := 14 } : Room).slots) (ef_ta1 m a0) ?_
  refine g_aloadN X0 hx hby d_ta1_0 rfl rfl (rfl : 0 + 1 = 1) ?_
  obtain ⟨T52, X52, e52, st52⟩ := getF X0 hx hZ hown (host := "") (Or.inl (hw _ (List.mem_of_getElem? (i := 26) rfl))) Via.refl e0 hp0 (g := (mkF m 1 #[.val (.ref a0)] [(.ref a0)])) rfl rfl (hb hby d_ta1_1)
  refine own_go st52 ?_
  show own_Got p e below _ T52 (mkF m 4 #[.val (.ref a0)] [(.ref c0)])
  obtain ⟨T53, h53, X53, e53, E53, V53, B53, st53⟩ := cloneH X52 hx hZ hown (hw _ (List.mem_of_getElem? (i := 11) rfl)) (hw _ (List.mem_of_getElem? (i := 12) rfl)) (hw _ (List.mem_of_getElem? (i := 16) rfl)) (hw _ (List.mem_of_getElem? (i := 14) rfl)) (hw _ (List.mem_of_getElem? (i := 15) rfl)) (hw _ (List.mem_of_getElem? (i := 17) rfl)) e52 hp2.arh hp1 (g := (mkF m 4 #[.val (.ref a0)] [(.ref c0)])) rfl (by rw [hml]; rfl) rfl (hb hby d_ta1_4) (by decide) (W := 0) (by show 2 * 0 + _ ≤ _; exact Nat.le_of_eq rfl) (by decide) (cap := 1) (by decide) (by decide) (by decide)
  obtain ⟨b53, g53⟩ : ∃ z, z = h0.size := ⟨_, rfl⟩
  rw [← g53] at V53 B53 st53
  have ne54 : a0 ≠ b53 := Nat.ne_of_lt (Nat.lt_of_lt_of_le (hp0).lt (Nat.le_of_eq g53.symm))
  have ne55 : c0 ≠ b53 := Nat.ne_of_lt (Nat.lt_of_lt_of_le (hp1).lt (Nat.le_of_eq g53.symm))
  have Z53 : n0 ≤ h53.size := Nat.le_trans Z0 E53.1
  have K53 : Keep h0 h53 [] := (Keep.refl h0 []).ext E53
  have ge53 : n0 ≤ b53 := Nat.le_trans Z0 (Nat.le_of_eq g53.symm)
  have sz53 : h0.size ≤ b53 := Nat.le_trans (Keep.refl h0 []).1 (Nat.le_of_eq g53.symm)
  have V53' : Arv Z h53 b53 kk .byte (1 : Int32) [(.int u0)] (.int (0 : Int32)) := V53
  refine own_go st53 ?_
  show own_Got p e below _ T53 (mkF m 7 #[.val (.ref a0)] [(.ref b53)])
  obtain ⟨T56, X56, e56, st56⟩ := castY X53 hx hZ hown (hw _ (List.mem_of_getElem? (i := 18) rfl)) e53 (Ins.self B53) (g := (mkF m 7 #[.val (.ref a0)] [(.ref b53)])) rfl rfl (hb hby d_ta1_7)
  refine own_go st56 ?_
  show own_Got p e below _ T56 (mkF m 10 #[.val (.ref a0)] [(.ref b53)])
  refine own_retR X56 hx hby hlk hrt rfl d_ta1_10 (by decide) (by decide) rfl ?_
  show Q_ta1 Z a0 c0 kk u0 h0 n0 _ T56.heap _
  rw [e56]
  exact ⟨b53, rfl, N0, K53, sz53, B53, V53'⟩
theorem d_hd1_0 : decode method_3_code 0 = .ok (.aload_n 0, 1) := by decide +kernel
theorem d_hd1_1 : decode method_3_code 1 = .ok (.arraylength, 1) := by decide +kernel
theorem d_hd1_2 : decode method_3_code 2 = .ok (.iload_n 1, 1) := by decide +kernel
theorem d_hd1_3 : decode method_3_code 3 = .ok (.if_icmp .eq 5, 3) := by decide +kernel
theorem d_hd1_8 : decode method_3_code 8 = .ok (.iload_n 1, 1) := by decide +kernel
theorem d_hd1_9 : decode method_3_code 9 = .ok (.iconst 1, 1) := by decide +kernel
theorem d_hd1_10 : decode method_3_code 10 = .ok (.if_icmp .lt 13, 3) := by decide +kernel
theorem d_hd1_13 : decode method_3_code 13 = .ok (.aload_n 0, 1) := by decide +kernel
theorem d_hd1_14 : decode method_3_code 14 = .ok (.iconst 0, 1) := by decide +kernel
theorem d_hd1_15 : decode method_3_code 15 = .ok (.baload, 1) := by decide +kernel
theorem d_hd1_16 : decode method_3_code 16 = .ok (.iload_n 2, 1) := by decide +kernel
theorem d_hd1_17 : decode method_3_code 17 = .ok (.i2b, 1) := by decide +kernel
theorem d_hd1_18 : decode method_3_code 18 = .ok (.if_icmp .eq 5, 3) := by decide +kernel
theorem d_hd1_23 : decode method_3_code 23 = .ok (.iload_n 1, 1) := by decide +kernel
theorem d_hd1_24 : decode method_3_code 24 = .ok (.iconst 2, 1) := by decide +kernel
theorem d_hd1_25 : decode method_3_code 25 = .ok (.if_icmp .lt 13, 3) := by decide +kernel
theorem d_hd1_38 : decode method_3_code 38 = .ok (.iload_n 1, 1) := by decide +kernel
theorem d_hd1_39 : decode method_3_code 39 = .ok (.iconst 3, 1) := by decide +kernel
theorem d_hd1_40 : decode method_3_code 40 = .ok (.if_icmp .lt 14, 3) := by decide +kernel
theorem d_hd1_54 : decode method_3_code 54 = .ok (.iconst 1, 1) := by decide +kernel
theorem d_hd1_55 : decode method_3_code 55 = .ok (.ireturn, 1) := by decide +kernel
theorem ef_hd1 (m : MethodId) (a0 : Addr) (x2 : Int32) (x3 : Int32) (x4 : Int32) : entryFrame m #[(.ref a0), (.int (1 : Int32)), (.int x2), (.int x3), (.int x4)] 5 = mkF m 0 #[.val (.ref a0), .val (.int (1 : Int32)), .val (.int x2), .val (.int x3), .val (.int x4)] [] := by first | (simp [entryFrame, mkF, argsToLocals, Value.category]; done) | rfl
def Q_hd1 (Z : State) (a0 : Addr) (x2 : Int32) (x3 : Int32) (x4 : Int32) (kk : ClassId) (h0 : Heap) (n0 : Nat) (v : Option Value) (h : Heap) (L : List Loc) : Prop := v = some (.int (1 : Int32)) ∧ Fr n0 L ∧ h = h0
set_option maxRecDepth 65536 in
set_option maxHeartbeats 40000000 in
theorem rm_hd1 (l : Launch) (Z : State) (aT : Array Value) (hw : ∀ d ∈ tables_1, d.before aT Z = true) (ws : List Jvm.Cond) (a0 : Addr) (x2 : Int32) (x3 : Int32) (x4 : Int32) (kk : ClassId) (h0 : Heap) (n0 : Nat) (Z0 : n0 ≤ h0.size) (hp0 : Arv Z h0 a0 kk .byte (1 : Int32) [(.int (x2.toInt8.toInt32))] (.int (0 : Int32))) :
    MetFree l (⟨"com/example/coppice/coppice/tree/ByteStringOfPinLaw", "holds", "([BIIII)Z"⟩ : MethodName) (head1 (Jvm.Cond.code (⟨"com/example/coppice/coppice/tree/ByteStringOfPinLaw", "holds", "([BIIII)Z"⟩ : MethodName) method_3_code 5 (some .boolean) :: ws) ({ frames := 0, cells := 0, slots := 0, locals := 0 } : Room)) (fun a U => a = #[(.ref a0), (.int (1 : Int32)), (.int x2), (.int x3), (.int x4)] ∧ Z.Warmed39 U.vm ∧ U.heap = h0) (fun _ _ _ _ _ => True) (fun _ U o U' => ∃ v L, o = .returned v ∧ Q_hd1 Z a0 x2 x3 x4 kk h0 n0 v U'.heap L ∧ FrameEnd U o U' L ({ frames := 0, cells := 0, slots := 0, locals := 0 } : Room).cells ({ frames := 0, cells := 0, slots := 0, locals := 0 } : Room).slots) := by
  refine MetFree.of_bodySF (plainFor_of_name pn0) hisR ?_
  intro p e s m args below meth c s₁ Bd hml0 hP hK
  obtain ⟨rfl, hZ, hh⟩ := hP
  have hx := Bd.exec
  have hby := Bd.bytes
  have hml : c.maxLocals = 5 := hml0
  have hown : s.vm.findClass "com/example/coppice/coppice/tree/ByteStringOfPinLaw" = some m.cls := findClass_of_methodNamed Bd.named
  have hnm := (name_of_methodNamed Bd.named Bd.method).1
  have hlk := Bd.notSynchronized
  have hrt := Bd.returns
  have X0 : Stand p l e ({ frames := 0, cells := 0, slots := 0, locals := 0 } : Room) s m #[(.ref a0), (.int (1 : Int32)), (.int x2), (.int x3), (.int x4)] below meth c s₁ [] 0 0 := Stand.of_body Bd
  have e0 : s₁.heap = h0 := by rw [← hh, Bd.state]; rfl
  have N0 := Fr.nil n0
  refine own_cast (P := own_End s (Q_hd1 Z a0 x2 x3 x4 kk h0 n0) ({ frames := 0, cells := 0, slots := 0, locals := 0 } : Room).cells ({ frames := 0, cells := 0, slots := 0, locals := 0 } : Room).slots) (ef_hd1 m a0 x2 x3 x4) ?_
  refine g_aloadN X0 hx hby d_hd1_0 rfl rfl (rfl : 0 + 1 = 1) ?_
  refine g_alen X0 hx hby hZ e0 hp0 d_hd1_1 (rfl : 1 + 1 = 2) ?_
  refine g_iloadN X0 hx hby d_hd1_2 rfl (rfl : 2 + 1 = 3) ?_
  refine g_icT X0 hx hby d_hd1_3 (teq (by decide : (1 : Int32) = (1 : Int32))).1 (by decide) (pc' := 8) (by decide) ?_
  refine g_iloadN X0 hx hby d_hd1_8 rfl (rfl : 8 + 1 = 9) ?_
  refine g_iconst X0 hx hby (1 : Int32) d_hd1_9 (by decide) (rfl : 9 + 1 = 10) ?_
  refine g_icF X0 hx hby d_hd1_10 (flt (by decide : ¬ ((1 : Int32) < (1 : Int32)))).1 (rfl : 10 + 3 = 13) ?_
  refine g_aloadN X0 hx hby d_hd1_13 rfl rfl (rfl : 13 + 1 = 14) ?_
  refine g_iconst X0 hx hby (0 : Int32) d_hd1_14 (by decide) (rfl : 14 + 1 = 15) ?_
  refine g_baload X0 hx hby hZ e0 (v := (.int (x2.toInt8.toInt32))) hp0 ⟨by decide, by decide⟩ rfl d_hd1_15 (rfl : 15 + 1 = 16) ?_
  refine g_iloadN X0 hx hby d_hd1_16 rfl (rfl : 16 + 1 = 17) ?_
  refine g_i2b X0 hx hby d_hd1_17 (rfl : 17 + 1 = 18) ?_
  refine g_icT X0 hx hby d_hd1_18 (teq (rfl : (x2.toInt8.toInt32) = (x2.toInt8.toInt32))).1 (by decide) (pc' := 23) (by decide) ?_
  refine g_iloadN X0 hx hby d_hd1_23 rfl (rfl : 23 + 1 = 24) ?_
  refine g_iconst X0 hx hby (2 : Int32) d_hd1_24 (by decide) (rfl : 24 + 1 = 25) ?_
  refine g_icT X0 hx hby d_hd1_25 (tlt (by decide : (1 : Int32) < (2 : Int32))).1 (by decide) (pc' := 38) (by decide) ?_
  refine g_iloadN X0 hx hby d_hd1_38 rfl (rfl : 38 + 1 = 39) ?_
  refine g_iconst X0 hx hby (3 : Int32) d_hd1_39 (by decide) (rfl : 39 + 1 = 40) ?_
  refine g_icT X0 hx hby d_hd1_40 (tlt (by decide : (1 : Int32) < (3 : Int32))).1 (by decide) (pc' := 54) (by decide) ?_
  refine g_iconst X0 hx hby (1 : Int32) d_hd1_54 (by decide) (rfl : 54 + 1 = 55) ?_
  refine own_retN X0 hx hby hlk (t := .boolean) hrt (by simp) d_hd1_55 (by decide) (by decide) ?_
  show Q_hd1 Z a0 x2 x3 x4 kk h0 n0 _ s₁.heap _
  exact ⟨rfl, N0, e0⟩
theorem d_of2_0 : decode prog_64_method_2_code 0 = .ok (.new 8, 3) := by decide +kernel
theorem d_of2_3 : decode prog_64_method_2_code 3 = .ok (.dup, 1) := by decide +kernel
theorem d_of2_4 : decode prog_64_method_2_code 4 = .ok (.aload_n 0, 1) := by decide +kernel
theorem d_of2_5 : decode prog_64_method_2_code 5 = .ok (.invokevirtual 13, 3) := by decide +kernel
theorem d_of2_8 : decode prog_64_method_2_code 8 = .ok (.checkcast 14, 3) := by decide +kernel
theorem d_of2_11 : decode prog_64_method_2_code 11 = .ok (.invokespecial 18, 3) := by decide +kernel
theorem d_of2_14 : decode prog_64_method_2_code 14 = .ok (.areturn, 1) := by decide +kernel
theorem ef_of2 (m : MethodId) (a0 : Addr) : entryFrame m #[(.ref a0)] 1 = mkF m 0 #[.val (.ref a0)] [] := by first | (simp [entryFrame, mkF, argsToLocals, Value.category]; done) | rfl
def Q_of2 (Z : State) (a0 : Addr) (kk : ClassId) (u0 : Int32) (u1 : Int32) (h0 : Heap) (n0 : Nat) (v : Option Value) (h : Heap) (L : List Loc) : Prop := ∃ (ob : Addr), ∃ (oc : Addr), v = some (.ref ob) ∧ Fr n0 L ∧ Keep h0 h [] ∧ h0.size ≤ ob ∧ Exa Z h ob "com/example/coppice/coppice/tree/ByteString" ∧ Fld Z h ob "com/example/coppice/coppice/tree/ByteString" "_bytes" "[B" (.ref oc) ∧ h0.size ≤ oc ∧ Exa Z h oc "[B" ∧ Arv Z h oc kk .byte (2 : Int32) [(.int u0), (.int u1)] (.int (0 : Int32))
set_option maxRecDepth 65536 in
set_option maxHeartbeats 40000000 in
theorem rm_of2 (l : Launch) (Z : State) (aT : Array Value) (hw : ∀ d ∈ tables_1, d.before aT Z = true) (ws : List Jvm.Cond) (a0 : Addr) (kk : ClassId) (u0 : Int32) (u1 : Int32) (h0 : Heap) (n0 : Nat) (Z0 : n0 ≤ h0.size) (hp0 : Exa Z h0 a0 "[B") (hp1 : Arv Z h0 a0 kk .byte (2 : Int32) [(.int u0), (.int u1)] (.int (0 : Int32))) :
    MetFree l (⟨"com/example/coppice/coppice/tree/ByteString", "of", "([B)Lcom/example/coppice/coppice/tree/ByteString;"⟩ : MethodName) (head1 (Jvm.Cond.code (⟨"com/example/coppice/coppice/tree/ByteString", "of", "([B)Lcom/example/coppice/coppice/tree/ByteString;"⟩ : MethodName) prog_64_method_2_code 1 (some (.object "com/example/coppice/coppice/tree/ByteString")) :: ws) ({ frames := 2, cells := 2, slots := 3, locals := 26 } : Room)) (fun a U => a = #[(.ref a0)] ∧ Z.Warmed39 U.vm ∧ U.heap = h0) (fun _ _ _ _ _ => True) (fun _ U o U' => ∃ v L, o = .returned v ∧ Q_of2 Z a0 kk u0 u1 h0 n0 v U'.heap L ∧ FrameEnd U o U' L ({ frames := 2, cells := 2, slots := 3, locals := 26 } : Room).cells ({ frames := 2, cells := 2, slots := 3, locals := 26 } : Room).slots) := by
  refine MetFree.of_bodySF (plainFor_of_name pn1) hisR ?_
  intro p e s m args below meth c s₁ Bd hml0 hP hK
  obtain ⟨rfl, hZ, hh⟩ := hP
  have hx := Bd.exec
  have hby := Bd.bytes
  have hml : c.maxLocals = 1 := hml0
  have hown : s.vm.findClass "com/example/coppice/coppice/tree/ByteString" = some m.cls := findClass_of_methodNamed Bd.named
  have hnm := (name_of_methodNamed Bd.named Bd.method).1
  have hlk := Bd.notSynchronized
  have hrt := Bd.returns
  have X0 : Stand p l e ({ frames := 2, cells := 2, slots := 3, locals := 26 } : Room) s m #[(.ref a0)] below meth c s₁ [] 0 0 := Stand.of_body Bd
  have e0 : s₁.heap = h0 := by rw [← hh, Bd.state]; rfl
  have N0 := Fr.nil n0
  refine own_cast (P := own_End s (Q_of2 Z a0 kk u0 u1 h0 n0) ({ frames := 2, cells := 2, slots := 3, locals := 26 } : Room).cells ({ frames := 2, cells := 2, slots := 3, locals := 26 } : Room).slots) (ef_of2 m a0) ?_
  obtain ⟨T57, h57, X57, e57, E57, A57, D57, -, st57⟩ := newO X0 hx hZ hown (hw _ (List.mem_of_getElem? (i := 9) rfl)) (hw _ (List.mem_of_getElem? (i := 10) rfl)) (hw _ (List.mem_of_getElem? (i := 7) rfl)) e0 (g := (mkF m 0 #[.val (.ref a0)] [])) rfl (hb hby d_of2_0) (by decide) (by decide)
  obtain ⟨b57, g57⟩ : ∃ z, z = h0.size := ⟨_, rfl⟩
  rw [← g57] at A57 D57 st57
  have ne58 : a0 ≠ b57 := Nat.ne_of_lt (Nat.lt_of_lt_of_le (hp0).lt (Nat.le_of_eq g57.symm))
  have Z57 : n0 ≤ h57.size := Nat.le_trans Z0 E57.1
  have K57 : Keep h0 h57 [] := (Keep.refl h0 []).ext E57
  have ge57 : n0 ≤ b57 := Nat.le_trans Z0 (Nat.le_of_eq g57.symm)
  have sz57 : h0.size ≤ b57 := Nat.le_trans (Keep.refl h0 []).1 (Nat.le_of_eq g57.symm)
  have f59 : Fld Z h57 b57 "com/example/coppice/coppice/tree/ByteString" "_bytes" "[B" .null := D57 (Or.inr (hw _ (List.mem_of_getElem? (i := 27) rfl))) (ty := (.array .byte)) (by decide)
  refine own_go st57 ?_
  show own_Got p e below _ T57 (mkF m 3 #[.val (.ref a0)] [(.ref b57)])
  refine g_dup X57 hx hby d_of2_3 rfl (rfl : 3 + 1 = 4) ?_
  refine g_aloadN X57 hx hby d_of2_4 rfl rfl (rfl : 4 + 1 = 5) ?_
  have f60 : Arv Z h57 a0 kk .byte (2 : Int32) [(.int u0), (.int u1)] (.int (0 : Int32)) := (hp1.ext E57)
  have f61 : Exa Z h57 a0 "[B" := (Exa.ext E57 hp0)
  obtain ⟨T62, h62, X62, e62, E62, V62, B62, st62⟩ := cloneH X57 hx hZ hown (hw _ (List.mem_of_getElem? (i := 11) rfl)) (hw _ (List.mem_of_getElem? (i := 12) rfl)) (hw _ (List.mem_of_getElem? (i := 16) rfl)) (hw _ (List.mem_of_getElem? (i := 14) rfl)) (hw _ (List.mem_of_getElem? (i := 15) rfl)) (hw _ (List.mem_of_getElem? (i := 17) rfl)) e57 f60.arh f61 (g := (mkF m 5 #[.val (.ref a0)] [(.ref a0), (.ref b57), (.ref b57)])) rfl (by rw [hml]; rfl) rfl (hb hby d_of2_5) (by decide) (W := 2) (by show 2 * 0 + _ ≤ _; exact Nat.le_of_eq rfl) (by decide) (cap := 2) (by decide) (by decide) (by decide)
  obtain ⟨b62, g62⟩ : ∃ z, z = h57.size := ⟨_, rfl⟩
  rw [← g62] at V62 B62 st62
  have ne63 : a0 ≠ b62 := Nat.ne_of_lt (Nat.lt_of_lt_of_le (f61).lt (Nat.le_of_eq g62.symm))
  have ne64 : b57 ≠ b62 := Nat.ne_of_lt (Nat.lt_of_lt_of_le (A57).lt (Nat.le_of_eq g62.symm))
  have Z62 : n0 ≤ h62.size := Nat.le_trans Z57 E62.1
  have K62 : Keep h0 h62 [] := K57.ext E62
  have ge62 : n0 ≤ b62 := Nat.le_trans Z57 (Nat.le_of_eq g62.symm)
  have sz62 : h0.size ≤ b62 := Nat.le_trans K57.1 (Nat.le_of_eq g62.symm)
  have V62' : Arv Z h62 b62 kk .byte (2 : Int32) [(.int u0), (.int u1)] (.int (0 : Int32)) := V62
  refine own_go st62 ?_
  show own_Got p e below _ T62 (mkF m 8 #[.val (.ref a0)] [(.ref b62), (.ref b57), (.ref b57)])
  obtain ⟨T65, X65, e65, st65⟩ := castY X62 hx hZ hown (hw _ (List.mem_of_getElem? (i := 18) rfl)) e62 (Ins.self B62) (g := (mkF m 8 #[.val (.ref a0)] [(.ref b62), (.ref b57), (.ref b57)])) rfl rfl (hb hby d_of2_8)
  refine own_go st65 ?_
  show own_Got p e below _ T65 (mkF m 11 #[.val (.ref a0)] [(.ref b62), (.ref b57), (.ref b57)])
  have f67 : Exa Z h62 b57 "com/example/coppice/coppice/tree/ByteString" := (Exa.ext E62 A57)
  have f68 : Fld Z h62 b57 "com/example/coppice/coppice/tree/ByteString" "_bytes" "[B" .null := (Fld.ext E62 f59)
  have f69 : Exa Z h62 a0 "[B" := (Exa.ext E62 f61)
  obtain ⟨_, _, ⟨T66, L66, k66, n66⟩, -, X66, ⟨Lc66, hQ66, l66, y66, z66⟩, st66⟩ := X65.specialBack hx (y := (⟨"com/example/coppice/coppice/tree/ByteString", "<init>", "([B)V"⟩ : MethodName)) rfl hown (mvT hZ (hw _ (List.mem_of_getElem? (i := 20) rfl))) (mvT hZ (hw _ (List.mem_of_getElem? (i := 21) rfl))) (mvT hZ (hw _ (List.mem_of_getElem? (i := 22) rfl))) (by decide) (backOf (W := 1) (rm_ini l Z aT hw [] b57 b62 h62 n0 Z62 f67 f68 ge57) hZ (hw _ (List.mem_of_getElem? (i := 22) rfl)) (hw _ (List.mem_of_getElem? (i := 7) rfl)) (by decide) (by decide)) (g := (mkF m 11 #[.val (.ref a0)] [(.ref b62), (.ref b57), (.ref b57)])) rfl (by rw [hml]; rfl) (Steps.refl _) (a := b57) (argsL := [(.ref b62)]) (rest := [(.ref b57)]) (lenOf pd0 rfl) rfl (by show 2 * 0 + _ ≤ _; exact Nat.le_of_eq rfl) (hb hby d_of2_11) (fun _ _ => ⟨rfl, e65, (by decide : 2 + 0 ≤ _), (by decide : 3 + 0 ≤ _)⟩)
  dsimp only [Pt.U, Pt.locs, Pt.cells, Pt.slots] at X66 l66 y66 z66 st66 hQ66
  subst l66 y66 z66
  obtain ⟨rfl, N66q, K66, q66_0, q66_1⟩ := hQ66
  have N66 := Fr.app N0 N66q
  have Z66 : n0 ≤ T66.heap.size := Nat.le_trans Z62 K66.1
  have KC66 : Keep h0 T66.heap [] := K62.trans K66 (allS (Or.inr sz57) all0)
  refine own_tr st66 ?_
  show own_Got p e below _ T66 (mkF m 14 #[.val (.ref a0)] [(.ref b57)])
  have f70 : Exa Z T66.heap b62 "[B" := (Exa.keep B62 K66)
  have f71 : Arv Z T66.heap b62 kk .byte (2 : Int32) [(.int u0), (.int u1)] (.int (0 : Int32)) := (Arv.keep V62' K66 (ninS (Ne.symm ne64) nin0))
  refine own_retR X66 hx hby hlk hrt rfl d_of2_14 (by decide) (by decide) rfl ?_
  show Q_of2 Z a0 kk u0 u1 h0 n0 _ T66.heap _
  exact ⟨b57, b62, rfl, N66, KC66, sz57, q66_0, q66_1, sz62, f70, f71⟩
theorem d_ta2_0 : decode prog_64_method_6_code 0 = .ok (.aload_n 0, 1) := by decide +kernel
theorem d_ta2_1 : decode prog_64_method_6_code 1 = .ok (.getfield 7, 3) := by decide +kernel
theorem d_ta2_4 : decode prog_64_method_6_code 4 = .ok (.invokevirtual 13, 3) := by decide +kernel
theorem d_ta2_7 : decode prog_64_method_6_code 7 = .ok (.checkcast 14, 3) := by decide +kernel
theorem d_ta2_10 : decode prog_64_method_6_code 10 = .ok (.areturn, 1) := by decide +kernel
theorem ef_ta2 (m : MethodId) (a0 : Addr) : entryFrame m #[(.ref a0)] 1 = mkF m 0 #[.val (.ref a0)] [] := by first | (simp [entryFrame, mkF, argsToLocals, Value.category]; done) | rfl
def Q_ta2 (Z : State) (a0 : Addr) (c0 : Addr) (kk : ClassId) (u0 : Int32) (u1 : Int32) (h0 : Heap) (n0 : Nat) (v : Option Value) (h : Heap) (L : List Loc) : Prop := ∃ (oc : Addr), v = some (.ref oc) ∧ Fr n0 L ∧ Keep h0 h [] ∧ h0.size ≤ oc ∧ Exa Z h oc "[B" ∧ Arv Z h oc kk .byte (2 : Int32) [(.int u0), (.int u1)] (.int (0 : Int32))
set_option maxRecDepth 65536 in
set_option maxHeartbeats 40000000 in
theorem rm_ta2 (l : Launch) (Z : State) (aT : Array Value) (hw : ∀ d ∈ tables_1, d.before aT Z = true) (ws : List Jvm.Cond) (a0 : Addr) (c0 : Addr) (kk : ClassId) (u0 : Int32) (u1 : Int32) (h0 : Heap) (n0 : Nat) (Z0 : n0 ≤ h0.size) (hp0 : Fld Z h0 a0 "com/example/coppice/coppice/tree/ByteString" "_bytes" "[B" (.ref c0)) (hp1 : Exa Z h0 c0 "[B") (hp2 : Arv Z h0 c0 kk .byte (2 : Int32) [(.int u0), (.int u1)] (.int (0 : Int32))) :
    MetFree l (⟨"com/example/coppice/coppice/tree/ByteString", "toByteArray", "()[B"⟩ : MethodName) (head1 (Jvm.Cond.code (⟨"com/example/coppice/coppice/tree/ByteString", "toByteArray", "()[B"⟩ : MethodName) prog_64_method_6_code 1 (some (.array .byte)) :: ws) ({ frames := 1, cells := 1, slots := 2, locals := 14 } : Room)) (fun a U => a = #[(.ref a0)] ∧ Z.Warmed39 U.vm ∧ U.heap = h0) (fun _ _ _ _ _ => True) (fun _ U o U' => ∃ v L, o = .returned v ∧ Q_ta2 Z a0 c0 kk u0 u1 h0 n0 v U'.heap L ∧ FrameEnd U o U' L ({ frames := 1, cells := 1, slots := 2, locals := 14 } : Room).cells ({ frames := 1, cells := 1, slots := 2, locals := 14 } : Room).slots) := by
  refine MetFree.of_bodySF (plainFor_of_name pn1) hisR ?_
  intro p e s m args below meth c s₁ Bd hml0 hP hK
  obtain ⟨rfl, hZ, hh⟩ := hP
  have hx := Bd.exec
  have hby := Bd.bytes
  have hml : c.maxLocals = 1 := hml0
  have hown : s.vm.findClass "com/example/coppice/coppice/tree/ByteString" = some m.cls := findClass_of_methodNamed Bd.named
  have hnm := (name_of_methodNamed Bd.named Bd.method).1
  have hlk := Bd.notSynchronized
  have hrt := Bd.returns
  have X0 : Stand p l e ({ frames := 1, cells := 1, slots := 2, locals := 14 } : Room) s m #[(.ref a0)] below meth c s₁ [] 0 0 := Stand.of_body Bd
  have e0 : s₁.heap = h0 := by rw [← hh, Bd.state]; rfl
  have N0 := Fr.nil n0
  refine own_cast (P := own_End s (Q_ta2 Z a0 c0 kk u0 u1 h0 n0) ({ frames := 1, cells := 1, slots := 2, locals := 14 } : Room).cells ({ frames := 1, cells := 1, slots := 2, locals := 14 } : Room).slots) (ef_ta2 m a0) ?_
  refine g_aloadN X0 hx hby d_ta2_0 rfl rfl (rfl : 0 + 1 = 1) ?_
  obtain ⟨T72, X72, e72, st72⟩ := getF X0 hx hZ hown (host := "") (Or.inl (hw _ (List.mem_of_getElem? (i := 26) rfl))) Via.refl e0 hp0 (g := (mkF m 1 #[.val (.ref a0)] [(.ref a0)])) rfl rfl (hb hby d_ta2_1)
  refine own_go st72 ?_
  show own_Got p e below _ T72 (mkF m 4 #[.val (.ref a0)] [(.ref c0)])
  obtain ⟨T73, h73, X73, e73, E73, V73, B73, st73⟩ := cloneH X72 hx hZ hown (hw _ (List.mem_of_getElem? (i := 11) rfl)) (hw _ (List.mem_of_getElem? (i := 12) rfl)) (hw _ (List.mem_of_getElem? (i := 16) rfl)) (hw _ (List.mem_of_getElem? (i := 14) rfl)) (hw _ (List.mem_of_getElem? (i := 15) rfl)) (hw _ (List.mem_of_getElem? (i := 17) rfl)) e72 hp2.arh hp1 (g := (mkF m 4 #[.val (.ref a0)] [(.ref c0)])) rfl (by rw [hml]; rfl) rfl (hb hby d_ta2_4) (by decide) (W := 0) (by show 2 * 0 + _ ≤ _; exact Nat.le_of_eq rfl) (by decide) (cap := 2) (by decide) (by decide) (by decide)
  obtain ⟨b73, g73⟩ : ∃ z, z = h0.size := ⟨_, rfl⟩
  rw [← g73] at V73 B73 st73
  have ne74 : a0 ≠ b73 := Nat.ne_of_lt (Nat.lt_of_lt_of_le (hp0).lt (Nat.le_of_eq g73.symm))
  have ne75 : c0 ≠ b73 := Nat.ne_of_lt (Nat.lt_of_lt_of_le (hp1).lt (Nat.le_of_eq g73.symm))
  have Z73 : n0 ≤ h73.size := Nat.le_trans Z0 E73.1
  have K73 : Keep h0 h73 [] := (Keep.refl h0 []).ext E73
  have ge73 : n0 ≤ b73 := Nat.le_trans Z0 (Nat.le_of_eq g73.symm)
  have sz73 : h0.size ≤ b73 := Nat.le_trans (Keep.refl h0 []).1 (Nat.le_of_eq g73.symm)
  have V73' : Arv Z h73 b73 kk .byte (2 : Int32) [(.int u0), (.int u1)] (.int (0 : Int32)) := V73
  refine own_go st73 ?_
  show own_Got p e below _ T73 (mkF m 7 #[.val (.ref a0)] [(.ref b73)])
  obtain ⟨T76, X76, e76, st76⟩ := castY X73 hx hZ hown (hw _ (List.mem_of_getElem? (i := 18) rfl)) e73 (Ins.self B73) (g := (mkF m 7 #[.val (.ref a0)] [(.ref b73)])) rfl rfl (hb hby d_ta2_7)
  refine own_go st76 ?_
  show own_Got p e below _ T76 (mkF m 10 #[.val (.ref a0)] [(.ref b73)])
  refine own_retR X76 hx hby hlk hrt rfl d_ta2_10 (by decide) (by decide) rfl ?_
  show Q_ta2 Z a0 c0 kk u0 u1 h0 n0 _ T76.heap _
  rw [e76]
  exact ⟨b73, rfl, N0, K73, sz73, B73, V73'⟩
theorem d_hd2_0 : decode method_3_code 0 = .ok (.aload_n 0, 1) := by decide +kernel
theorem d_hd2_1 : decode method_3_code 1 = .ok (.arraylength, 1) := by decide +kernel
theorem d_hd2_2 : decode method_3_code 2 = .ok (.iload_n 1, 1) := by decide +kernel
theorem d_hd2_3 : decode method_3_code 3 = .ok (.if_icmp .eq 5, 3) := by decide +kernel
theorem d_hd2_8 : decode method_3_code 8 = .ok (.iload_n 1, 1) := by decide +kernel
theorem d_hd2_9 : decode method_3_code 9 = .ok (.iconst 1, 1) := by decide +kernel
theorem d_hd2_10 : decode method_3_code 10 = .ok (.if_icmp .lt 13, 3) := by decide +kernel
theorem d_hd2_13 : decode method_3_code 13 = .ok (.aload_n 0, 1) := by decide +kernel
theorem d_hd2_14 : decode method_3_code 14 = .ok (.iconst 0, 1) := by decide +kernel
theorem d_hd2_15 : decode method_3_code 15 = .ok (.baload, 1) := by decide +kernel
theorem d_hd2_16 : decode method_3_code 16 = .ok (.iload_n 2, 1) := by decide +kernel
theorem d_hd2_17 : decode method_3_code 17 = .ok (.i2b, 1) := by decide +kernel
theorem d_hd2_18 : decode method_3_code 18 = .ok (.if_icmp .eq 5, 3) := by decide +kernel
theorem d_hd2_23 : decode method_3_code 23 = .ok (.iload_n 1, 1) := by decide +kernel
theorem d_hd2_24 : decode method_3_code 24 = .ok (.iconst 2, 1) := by decide +kernel
theorem d_hd2_25 : decode method_3_code 25 = .ok (.if_icmp .lt 13, 3) := by decide +kernel
theorem d_hd2_28 : decode method_3_code 28 = .ok (.aload_n 0, 1) := by decide +kernel
theorem d_hd2_29 : decode method_3_code 29 = .ok (.iconst 1, 1) := by decide +kernel
theorem d_hd2_30 : decode method_3_code 30 = .ok (.baload, 1) := by decide +kernel
theorem d_hd2_31 : decode method_3_code 31 = .ok (.iload_n 3, 1) := by decide +kernel
theorem d_hd2_32 : decode method_3_code 32 = .ok (.i2b, 1) := by decide +kernel
theorem d_hd2_33 : decode method_3_code 33 = .ok (.if_icmp .eq 5, 3) := by decide +kernel
theorem d_hd2_38 : decode method_3_code 38 = .ok (.iload_n 1, 1) := by decide +kernel
theorem d_hd2_39 : decode method_3_code 39 = .ok (.iconst 3, 1) := by decide +kernel
theorem d_hd2_40 : decode method_3_code 40 = .ok (.if_icmp .lt 14, 3) := by decide +kernel
theorem d_hd2_54 : decode method_3_code 54 = .ok (.iconst 1, 1) := by decide +kernel
theorem d_hd2_55 : decode method_3_code 55 = .ok (.ireturn, 1) := by decide +kernel
theorem ef_hd2 (m : MethodId) (a0 : Addr) (x2 : Int32) (x3 : Int32) (x4 : Int32) : entryFrame m #[(.ref a0), (.int (2 : Int32)), (.int x2), (.int x3), (.int x4)] 5 = mkF m 0 #[.val (.ref a0), .val (.int (2 : Int32)), .val (.int x2), .val (.int x3), .val (.int x4)] [] := by first | (simp [entryFrame, mkF, argsToLocals, Value.category]; done) | rfl
def Q_hd2 (Z : State) (a0 : Addr) (x2 : Int32) (x3 : Int32) (x4 : Int32) (kk : ClassId) (h0 : Heap) (n0 : Nat) (v : Option Value) (h : Heap) (L : List Loc) : Prop := v = some (.int (1 : Int32)) ∧ Fr n0 L ∧ h = h0
set_option maxRecDepth 65536 in
set_option maxHeartbeats 40000000 in
theorem rm_hd2 (l : Launch) (Z : State) (aT : Array Value) (hw : ∀ d ∈ tables_1, d.before aT Z = true) (ws : List Jvm.Cond) (a0 : Addr) (x2 : Int32) (x3 : Int32) (x4 : Int32) (kk : ClassId) (h0 : Heap) (n0 : Nat) (Z0 : n0 ≤ h0.size) (hp0 : Arv Z h0 a0 kk .byte (2 : Int32) [(.int (x2.toInt8.toInt32)), (.int (x3.toInt8.toInt32))] (.int (0 : Int32))) :
    MetFree l (⟨"com/example/coppice/coppice/tree/ByteStringOfPinLaw", "holds", "([BIIII)Z"⟩ : MethodName) (head1 (Jvm.Cond.code (⟨"com/example/coppice/coppice/tree/ByteStringOfPinLaw", "holds", "([BIIII)Z"⟩ : MethodName) method_3_code 5 (some .boolean) :: ws) ({ frames := 0, cells := 0, slots := 0, locals := 0 } : Room)) (fun a U => a = #[(.ref a0), (.int (2 : Int32)), (.int x2), (.int x3), (.int x4)] ∧ Z.Warmed39 U.vm ∧ U.heap = h0) (fun _ _ _ _ _ => True) (fun _ U o U' => ∃ v L, o = .returned v ∧ Q_hd2 Z a0 x2 x3 x4 kk h0 n0 v U'.heap L ∧ FrameEnd U o U' L ({ frames := 0, cells := 0, slots := 0, locals := 0 } : Room).cells ({ frames := 0, cells := 0, slots := 0, locals := 0 } : Room).slots) := by
  refine MetFree.of_bodySF (plainFor_of_name pn0) hisR ?_
  intro p e s m args below meth c s₁ Bd hml0 hP hK
  obtain ⟨rfl, hZ, hh⟩ := hP
  have hx := Bd.exec
  have hby := Bd.bytes
  have hml : c.maxLocals = 5 := hml0
  have hown : s.vm.findClass "com/example/coppice/coppice/tree/ByteStringOfPinLaw" = some m.cls := findClass_of_methodNamed Bd.named
  have hnm := (name_of_methodNamed Bd.named Bd.method).1
  have hlk := Bd.notSynchronized
  have hrt := Bd.returns
  have X0 : Stand p l e ({ frames := 0, cells := 0, slots := 0, locals := 0 } : Room) s m #[(.ref a0), (.int (2 : Int32)), (.int x2), (.int x3), (.int x4)] below meth c s₁ [] 0 0 := Stand.of_body Bd
  have e0 : s₁.heap = h0 := by rw [← hh, Bd.state]; rfl
  have N0 := Fr.nil n0
  refine own_cast (P := own_End s (Q_hd2 Z a0 x2 x3 x4 kk h0 n0) ({ frames := 0, cells := 0, slots := 0, locals := 0 } : Room).cells ({ frames := 0, cells := 0, slots := 0, locals := 0 } : Room).slots) (ef_hd2 m a0 x2 x3 x4) ?_
  refine g_aloadN X0 hx hby d_hd2_0 rfl rfl (rfl : 0 + 1 = 1) ?_
  refine g_alen X0 hx hby hZ e0 hp0 d_hd2_1 (rfl : 1 + 1 = 2) ?_
  refine g_iloadN X0 hx hby d_hd2_2 rfl (rfl : 2 + 1 = 3) ?_
  refine g_icT X0 hx hby d_hd2_3 (teq (by decide : (2 : Int32) = (2 : Int32))).1 (by decide) (pc' := 8) (by decide) ?_
  refine g_iloadN X0 hx hby d_hd2_8 rfl (rfl : 8 + 1 = 9) ?_
  refine g_iconst X0 hx hby (1 : Int32) d_hd2_9 (by decide) (rfl : 9 + 1 = 10) ?_
  refine g_icF X0 hx hby d_hd2_10 (flt (by decide : ¬ ((2 : Int32) < (1 : Int32)))).1 (rfl : 10 + 3 = 13) ?_
  refine g_aloadN X0 hx hby d_hd2_13 rfl rfl (rfl : 13 + 1 = 14) ?_
  refine g_iconst X0 hx hby (0 : Int32) d_hd2_14 (by decide) (rfl : 14 + 1 = 15) ?_
  refine g_baload X0 hx hby hZ e0 (v := (.int (x2.toInt8.toInt32))) hp0 ⟨by decide, by decide⟩ rfl d_hd2_15 (rfl : 15 + 1 = 16) ?_
  refine g_iloadN X0 hx hby d_hd2_16 rfl (rfl : 16 + 1 = 17) ?_
  refine g_i2b X0 hx hby d_hd2_17 (rfl : 17 + 1 = 18) ?_
  refine g_icT X0 hx hby d_hd2_18 (teq (rfl : (x2.toInt8.toInt32) = (x2.toInt8.toInt32))).1 (by decide) (pc' := 23) (by decide) ?_
  refine g_iloadN X0 hx hby d_hd2_23 rfl (rfl : 23 + 1 = 24) ?_
  refine g_iconst X0 hx hby (2 : Int32) d_hd2_24 (by decide) (rfl : 24 + 1 = 25) ?_
  refine g_icF X0 hx hby d_hd2_25 (flt (by decide : ¬ ((2 : Int32) < (2 : Int32)))).1 (rfl : 25 + 3 = 28) ?_
  refine g_aloadN X0 hx hby d_hd2_28 rfl rfl (rfl : 28 + 1 = 29) ?_
  refine g_iconst X0 hx hby (1 : Int32) d_hd2_29 (by decide) (rfl : 29 + 1 = 30) ?_
  refine g_baload X0 hx hby hZ e0 (v := (.int (x3.toInt8.toInt32))) hp0 ⟨by decide, by decide⟩ rfl d_hd2_30 (rfl : 30 + 1 = 31) ?_
  refine g_iloadN X0 hx hby d_hd2_31 rfl (rfl : 31 + 1 = 32) ?_
  refine g_i2b X0 hx hby d_hd2_32 (rfl : 32 + 1 = 33) ?_
  refine g_icT X0 hx hby d_hd2_33 (teq (rfl : (x3.toInt8.toInt32) = (x3.toInt8.toInt32))).1 (by decide) (pc' := 38) (by decide) ?_
  refine g_iloadN X0 hx hby d_hd2_38 rfl (rfl : 38 + 1 = 39) ?_
  refine g_iconst X0 hx hby (3 : Int32) d_hd2_39 (by decide) (rfl : 39 + 1 = 40) ?_
  refine g_icT X0 hx hby d_hd2_40 (tlt (by decide : (2 : Int32) < (3 : Int32))).1 (by decide) (pc' := 54) (by decide) ?_
  refine g_iconst X0 hx hby (1 : Int32) d_hd2_54 (by decide) (rfl : 54 + 1 = 55) ?_
  refine own_retN X0 hx hby hlk (t := .boolean) hrt (by simp) d_hd2_55 (by decide) (by decide) ?_
  show Q_hd2 Z a0 x2 x3 x4 kk h0 n0 _ s₁.heap _
  exact ⟨rfl, N0, e0⟩
theorem d_of3_0 : decode prog_64_method_2_code 0 = .ok (.new 8, 3) := by decide +kernel
theorem d_of3_3 : decode prog_64_method_2_code 3 = .ok (.dup, 1) := by decide +kernel
theorem d_of3_4 : decode prog_64_method_2_code 4 = .ok (.aload_n 0, 1) := by decide +kernel
theorem d_of3_5 : decode prog_64_method_2_code 5 = .ok (.invokevirtual 13, 3) := by decide +kernel
theorem d_of3_8 : decode prog_64_method_2_code 8 = .ok (.checkcast 14, 3) := by decide +kernel
theorem d_of3_11 : decode prog_64_method_2_code 11 = .ok (.invokespecial 18, 3) := by decide +kernel
theorem d_of3_14 : decode prog_64_method_2_code 14 = .ok (.areturn, 1) := by decide +kernel
theorem ef_of3 (m : MethodId) (a0 : Addr) : entryFrame m #[(.ref a0)] 1 = mkF m 0 #[.val (.ref a0)] [] := by first | (simp [entryFrame, mkF, argsToLocals, Value.category]; done) | rfl
def Q_of3 (Z : State) (a0 : Addr) (kk : ClassId) (u0 : Int32) (u1 : Int32) (u2 : Int32) (h0 : Heap) (n0 : Nat) (v : Option Value) (h : Heap) (L : List Loc) : Prop := ∃ (ob : Addr), ∃ (oc : Addr), v = some (.ref ob) ∧ Fr n0 L ∧ Keep h0 h [] ∧ h0.size ≤ ob ∧ Exa Z h ob "com/example/coppice/coppice/tree/ByteString" ∧ Fld Z h ob "com/example/coppice/coppice/tree/ByteString" "_bytes" "[B" (.ref oc) ∧ h0.size ≤ oc ∧ Exa Z h oc "[B" ∧ Arv Z h oc kk .byte (3 : Int32) [(.int u0), (.int u1), (.int u2)] (.int (0 : Int32))
set_option maxRecDepth 65536 in
set_option maxHeartbeats 40000000 in
theorem rm_of3 (l : Launch) (Z : State) (aT : Array Value) (hw : ∀ d ∈ tables_1, d.before aT Z = true) (ws : List Jvm.Cond) (a0 : Addr) (kk : ClassId) (u0 : Int32) (u1 : Int32) (u2 : Int32) (h0 : Heap) (n0 : Nat) (Z0 : n0 ≤ h0.size) (hp0 : Exa Z h0 a0 "[B") (hp1 : Arv Z h0 a0 kk .byte (3 : Int32) [(.int u0), (.int u1), (.int u2)] (.int (0 : Int32))) :
    MetFree l (⟨"com/example/coppice/coppice/tree/ByteString", "of", "([B)Lcom/example/coppice/coppice/tree/ByteString;"⟩ : MethodName) (head1 (Jvm.Cond.code (⟨"com/example/coppice/coppice/tree/ByteString", "of", "([B)Lcom/example/coppice/coppice/tree/ByteString;"⟩ : MethodName) prog_64_method_2_code 1 (some (.object "com/example/coppice/coppice/tree/ByteString")) :: ws) ({ frames := 2, cells := 2, slots := 4, locals := 26 } : Room)) (fun a U => a = #[(.ref a0)] ∧ Z.Warmed39 U.vm ∧ U.heap = h0) (fun _ _ _ _ _ => True) (fun _ U o U' => ∃ v L, o = .returned v ∧ Q_of3 Z a0 kk u0 u1 u2 h0 n0 v U'.heap L ∧ FrameEnd U o U' L ({ frames := 2, cells := 2, slots := 4, locals := 26 } : Room).cells ({ frames := 2, cells := 2, slots := 4, locals := 26 } : Room).slots) := by
  refine MetFree.of_bodySF (plainFor_of_name pn1) hisR ?_
  intro p e s m args below meth c s₁ Bd hml0 hP hK
  obtain ⟨rfl, hZ, hh⟩ := hP
  have hx := Bd.exec
  have hby := Bd.bytes
  have hml : c.maxLocals = 1 := hml0
  have hown : s.vm.findClass "com/example/coppice/coppice/tree/ByteString" = some m.cls := findClass_of_methodNamed Bd.named
  have hnm := (name_of_methodNamed Bd.named Bd.method).1
  have hlk := Bd.notSynchronized
  have hrt := Bd.returns
  have X0 : Stand p l e ({ frames := 2, cells := 2, slots := 4, locals := 26 } : Room) s m #[(.ref a0)] below meth c s₁ [] 0 0 := Stand.of_body Bd
  have e0 : s₁.heap = h0 := by rw [← hh, Bd.state]; rfl
  have N0 := Fr.nil n0
  refine own_cast (P := own_End s (Q_of3 Z a0 kk u0 u1 u2 h0 n0) ({ frames := 2, cells := 2, slots := 4, locals := 26 } : Room).cells ({ frames := 2, cells := 2, slots := 4, locals := 26 } : Room).slots) (ef_of3 m a0) ?_
  obtain ⟨T77, h77, X77, e77, E77, A77, D77, -, st77⟩ := newO X0 hx hZ hown (hw _ (List.mem_of_getElem? (i := 9) rfl)) (hw _ (List.mem_of_getElem? (i := 10) rfl)) (hw _ (List.mem_of_getElem? (i := 7) rfl)) e0 (g := (mkF m 0 #[.val (.ref a0)] [])) rfl (hb hby d_of3_0) (by decide) (by decide)
  obtain ⟨b77, g77⟩ : ∃ z, z = h0.size := ⟨_, rfl⟩
  rw [← g77] at A77 D77 st77
  have ne78 : a0 ≠ b77 := Nat.ne_of_lt (Nat.lt_of_lt_of_le (hp0).lt (Nat.le_of_eq g77.symm))
  have Z77 : n0 ≤ h77.size := Nat.le_trans Z0 E77.1
  have K77 : Keep h0 h77 [] := (Keep.refl h0 []).ext E77
  have ge77 : n0 ≤ b77 := Nat.le_trans Z0 (Nat.le_of_eq g77.symm)
  have sz77 : h0.size ≤ b77 := Nat.le_trans (Keep.refl h0 []).1 (Nat.le_of_eq g77.symm)
  have f79 : Fld Z h77 b77 "com/example/coppice/coppice/tree/ByteString" "_bytes" "[B" .null := D77 (Or.inr (hw _ (List.mem_of_getElem? (i := 27) rfl))) (ty := (.array .byte)) (by decide)
  refine own_go st77 ?_
  show own_Got p e below _ T77 (mkF m 3 #[.val (.ref a0)] [(.ref b77)])
  refine g_dup X77 hx hby d_of3_3 rfl (rfl : 3 + 1 = 4) ?_
  refine g_aloadN X77 hx hby d_of3_4 rfl rfl (rfl : 4 + 1 = 5) ?_
  have f80 : Arv Z h77 a0 kk .byte (3 : Int32) [(.int u0), (.int u1), (.int u2)] (.int (0 : Int32)) := (hp1.ext E77)
  have f81 : Exa Z h77 a0 "[B" := (Exa.ext E77 hp0)
  obtain ⟨T82, h82, X82, e82, E82, V82, B82, st82⟩ := cloneH X77 hx hZ hown (hw _ (List.mem_of_getElem? (i := 11) rfl)) (hw _ (List.mem_of_getElem? (i := 12) rfl)) (hw _ (List.mem_of_getElem? (i := 16) rfl)) (hw _ (List.mem_of_getElem? (i := 14) rfl)) (hw _ (List.mem_of_getElem? (i := 15) rfl)) (hw _ (List.mem_of_getElem? (i := 17) rfl)) e77 f80.arh f81 (g := (mkF m 5 #[.val (.ref a0)] [(.ref a0), (.ref b77), (.ref b77)])) rfl (by rw [hml]; rfl) rfl (hb hby d_of3_5) (by decide) (W := 2) (by show 2 * 0 + _ ≤ _; exact Nat.le_of_eq rfl) (by decide) (cap := 3) (by decide) (by decide) (by decide)
  obtain ⟨b82, g82⟩ : ∃ z, z = h77.size := ⟨_, rfl⟩
  rw [← g82] at V82 B82 st82
  have ne83 : a0 ≠ b82 := Nat.ne_of_lt (Nat.lt_of_lt_of_le (f81).lt (Nat.le_of_eq g82.symm))
  have ne84 : b77 ≠ b82 := Nat.ne_of_lt (Nat.lt_of_lt_of_le (A77).lt (Nat.le_of_eq g82.symm))
  have Z82 : n0 ≤ h82.size := Nat.le_trans Z77 E82.1
  have K82 : Keep h0 h82 [] := K77.ext E82
  have ge82 : n0 ≤ b82 := Nat.le_trans Z77 (Nat.le_of_eq g82.symm)
  have sz82 : h0.size ≤ b82 := Nat.le_trans K77.1 (Nat.le_of_eq g82.symm)
  have V82' : Arv Z h82 b82 kk .byte (3 : Int32) [(.int u0), (.int u1), (.int u2)] (.int (0 : Int32)) := V82
  refine own_go st82 ?_
  show own_Got p e below _ T82 (mkF m 8 #[.val (.ref a0)] [(.ref b82), (.ref b77), (.ref b77)])
  obtain ⟨T85, X85, e85, st85⟩ := castY X82 hx hZ hown (hw _ (List.mem_of_getElem? (i := 18) rfl)) e82 (Ins.self B82) (g := (mkF m 8 #[.val (.ref a0)] [(.ref b82), (.ref b77), (.ref b77)])) rfl rfl (hb hby d_of3_8)
  refine own_go st85 ?_
  show own_Got p e below _ T85 (mkF m 11 #[.val (.ref a0)] [(.ref b82), (.ref b77), (.ref b77)])
  have f87 : Exa Z h82 b77 "com/example/coppice/coppice/tree/ByteString" := (Exa.ext E82 A77)
  have f88 : Fld Z h82 b77 "com/example/coppice/coppice/tree/ByteString" "_bytes" "[B" .null := (Fld.ext E82 f79)
  have f89 : Exa Z h82 a0 "[B" := (Exa.ext E82 f81)
  obtain ⟨_, _, ⟨T86, L86, k86, n86⟩, -, X86, ⟨Lc86, hQ86, l86, y86, z86⟩, st86⟩ := X85.specialBack hx (y := (⟨"com/example/coppice/coppice/tree/ByteString", "<init>", "([B)V"⟩ : MethodName)) rfl hown (mvT hZ (hw _ (List.mem_of_getElem? (i := 20) rfl))) (mvT hZ (hw _ (List.mem_of_getElem? (i := 21) rfl))) (mvT hZ (hw _ (List.mem_of_getElem? (i := 22) rfl))) (by decide) (backOf (W := 1) (rm_ini l Z aT hw [] b77 b82 h82 n0 Z82 f87 f88 ge77) hZ (hw _ (List.mem_of_getElem? (i := 22) rfl)) (hw _ (List.mem_of_getElem? (i := 7) rfl)) (by decide) (by decide)) (g := (mkF m 11 #[.val (.ref a0)] [(.ref b82), (.ref b77), (.ref b77)])) rfl (by rw [hml]; rfl) (Steps.refl _) (a := b77) (argsL := [(.ref b82)]) (rest := [(.ref b77)]) (lenOf pd0 rfl) rfl (by show 2 * 0 + _ ≤ _; exact Nat.le_of_eq rfl) (hb hby d_of3_11) (fun _ _ => ⟨rfl, e85, (by decide : 2 + 0 ≤ _), (by decide : 4 + 0 ≤ _)⟩)
  dsimp only [Pt.U, Pt.locs, Pt.cells, Pt.slots] at X86 l86 y86 z86 st86 hQ86
  subst l86 y86 z86
  obtain ⟨rfl, N86q, K86, q86_0, q86_1⟩ := hQ86
  have N86 := Fr.app N0 N86q
  have Z86 : n0 ≤ T86.heap.size := Nat.le_trans Z82 K86.1
  have KC86 : Keep h0 T86.heap [] := K82.trans K86 (allS (Or.inr sz77) all0)
  refine own_tr st86 ?_
  show own_Got p e below _ T86 (mkF m 14 #[.val (.ref a0)] [(.ref b77)])
  have f90 : Exa Z T86.heap b82 "[B" := (Exa.keep B82 K86)
  have f91 : Arv Z T86.heap b82 kk .byte (3 : Int32) [(.int u0), (.int u1), (.int u2)] (.int (0 : Int32)) := (Arv.keep V82' K86 (ninS (Ne.symm ne84) nin0))
  refine own_retR X86 hx hby hlk hrt rfl d_of3_14 (by decide) (by decide) rfl ?_
  show Q_of3 Z a0 kk u0 u1 u2 h0 n0 _ T86.heap _
  exact ⟨b77, b82, rfl, N86, KC86, sz77, q86_0, q86_1, sz82, f90, f91⟩
theorem d_ta3_0 : decode prog_64_method_6_code 0 = .ok (.aload_n 0, 1) := by decide +kernel
theorem d_ta3_1 : decode prog_64_method_6_code 1 = .ok (.getfield 7, 3) := by decide +kernel
theorem d_ta3_4 : decode prog_64_method_6_code 4 = .ok (.invokevirtual 13, 3) := by decide +kernel
theorem d_ta3_7 : decode prog_64_method_6_code 7 = .ok (.checkcast 14, 3) := by decide +kernel
theorem d_ta3_10 : decode prog_64_method_6_code 10 = .ok (.areturn, 1) := by decide +kernel
theorem ef_ta3 (m : MethodId) (a0 : Addr) : entryFrame m #[(.ref a0)] 1 = mkF m 0 #[.val (.ref a0)] [] := by first | (simp [entryFrame, mkF, argsToLocals, Value.category]; done) | rfl
def Q_ta3 (Z : State) (a0 : Addr) (c0 : Addr) (kk : ClassId) (u0 : Int32) (u1 : Int32) (u2 : Int32) (h0 : Heap) (n0 : Nat) (v : Option Value) (h : Heap) (L : List Loc) : Prop := ∃ (oc : Addr), v = some (.ref oc) ∧ Fr n0 L ∧ Keep h0 h [] ∧ h0.size ≤ oc ∧ Exa Z h oc "[B" ∧ Arv Z h oc kk .byte (3 : Int32) [(.int u0), (.int u1), (.int u2)] (.int (0 : Int32))
set_option maxRecDepth 65536 in
set_option maxHeartbeats 40000000 in
theorem rm_ta3 (l : Launch) (Z : State) (aT : Array Value) (hw : ∀ d ∈ tables_1, d.before aT Z = true) (ws : List Jvm.Cond) (a0 : Addr) (c0 : Addr) (kk : ClassId) (u0 : Int32) (u1 : Int32) (u2 : Int32) (h0 : Heap) (n0 : Nat) (Z0 : n0 ≤ h0.size) (hp0 : Fld Z h0 a0 "com/example/coppice/coppice/tree/ByteString" "_bytes" "[B" (.ref c0)) (hp1 : Exa Z h0 c0 "[B") (hp2 : Arv Z h0 c0 kk .byte (3 : Int32) [(.int u0), (.int u1), (.int u2)] (.int (0 : Int32))) :
    MetFree l (⟨"com/example/coppice/coppice/tree/ByteString", "toByteArray", "()[B"⟩ : MethodName) (head1 (Jvm.Cond.code (⟨"com/example/coppice/coppice/tree/ByteString", "toByteArray", "()[B"⟩ : MethodName) prog_64_method_6_code 1 (some (.array .byte)) :: ws) ({ frames := 1, cells := 1, slots := 3, locals := 14 } : Room)) (fun a U => a = #[(.ref a0)] ∧ Z.Warmed39 U.vm ∧ U.heap = h0) (fun _ _ _ _ _ => True) (fun _ U o U' => ∃ v L, o = .returned v ∧ Q_ta3 Z a0 c0 kk u0 u1 u2 h0 n0 v U'.heap L ∧ FrameEnd U o U' L ({ frames := 1, cells := 1, slots := 3, locals := 14 } : Room).cells ({ frames := 1, cells := 1, slots := 3, locals := 14 } : Room).slots) := by
  refine MetFree.of_bodySF (plainFor_of_name pn1) hisR ?_
  intro p e s m args below meth c s₁ Bd hml0 hP hK
  obtain ⟨rfl, hZ, hh⟩ := hP
  have hx := Bd.exec
  have hby := Bd.bytes
  have hml : c.maxLocals = 1 := hml0
  have hown : s.vm.findClass "com/example/coppice/coppice/tree/ByteString" = some m.cls := findClass_of_methodNamed Bd.named
  have hnm := (name_of_methodNamed Bd.named Bd.method).1
  have hlk := Bd.notSynchronized
  have hrt := Bd.returns
  have X0 : Stand p l e ({ frames := 1, cells := 1, slots := 3, locals := 14 } : Room) s m #[(.ref a0)] below meth c s₁ [] 0 0 := Stand.of_body Bd
  have e0 : s₁.heap = h0 := by rw [← hh, Bd.state]; rfl
  have N0 := Fr.nil n0
  refine own_cast (P := own_End s (Q_ta3 Z a0 c0 kk u0 u1 u2 h0 n0) ({ frames := 1, cells := 1, slots := 3, locals := 14 } : Room).cells ({ frames := 1, cells := 1, slots := 3, locals := 14 } : Room).slots) (ef_ta3 m a0) ?_
  refine g_aloadN X0 hx hby d_ta3_0 rfl rfl (rfl : 0 + 1 = 1) ?_
  obtain ⟨T92, X92, e92, st92⟩ := getF X0 hx hZ hown (host := "") (Or.inl (hw _ (List.mem_of_getElem? (i := 26) rfl))) Via.refl e0 hp0 (g := (mkF m 1 #[.val (.ref a0)] [(.ref a0)])) rfl rfl (hb hby d_ta3_1)
  refine own_go st92 ?_
  show own_Got p e below _ T92 (mkF m 4 #[.val (.ref a0)] [(.ref c0)])
  obtain ⟨T93, h93, X93, e93, E93, V93, B93, st93⟩ := cloneH X92 hx hZ hown (hw _ (List.mem_of_getElem? (i := 11) rfl)) (hw _ (List.mem_of_getElem? (i := 12) rfl)) (hw _ (List.mem_of_getElem? (i := 16) rfl)) (hw _ (List.mem_of_getElem? (i := 14) rfl)) (hw _ (List.mem_of_getElem? (i := 15) rfl)) (hw _ (List.mem_of_getElem? (i := 17) rfl)) e92 hp2.arh hp1 (g := (mkF m 4 #[.val (.ref a0)] [(.ref c0)])) rfl (by rw [hml]; rfl) rfl (hb hby d_ta3_4) (by decide) (W := 0) (by show 2 * 0 + _ ≤ _; exact Nat.le_of_eq rfl) (by decide) (cap := 3) (by decide) (by decide) (by decide)
  obtain ⟨b93, g93⟩ : ∃ z, z = h0.size := ⟨_, rfl⟩
  rw [← g93] at V93 B93 st93
  have ne94 : a0 ≠ b93 := Nat.ne_of_lt (Nat.lt_of_lt_of_le (hp0).lt (Nat.le_of_eq g93.symm))
  have ne95 : c0 ≠ b93 := Nat.ne_of_lt (Nat.lt_of_lt_of_le (hp1).lt (Nat.le_of_eq g93.symm))
  have Z93 : n0 ≤ h93.size := Nat.le_trans Z0 E93.1
  have K93 : Keep h0 h93 [] := (Keep.refl h0 []).ext E93
  have ge93 : n0 ≤ b93 := Nat.le_trans Z0 (Nat.le_of_eq g93.symm)
  have sz93 : h0.size ≤ b93 := Nat.le_trans (Keep.refl h0 []).1 (Nat.le_of_eq g93.symm)
  have V93' : Arv Z h93 b93 kk .byte (3 : Int32) [(.int u0), (.int u1), (.int u2)] (.int (0 : Int32)) := V93
  refine own_go st93 ?_
  show own_Got p e below _ T93 (mkF m 7 #[.val (.ref a0)] [(.ref b93)])
  obtain ⟨T96, X96, e96, st96⟩ := castY X93 hx hZ hown (hw _ (List.mem_of_getElem? (i := 18) rfl)) e93 (Ins.self B93) (g := (mkF m 7 #[.val (.ref a0)] [(.ref b93)])) rfl rfl (hb hby d_ta3_7)
  refine own_go st96 ?_
  show own_Got p e below _ T96 (mkF m 10 #[.val (.ref a0)] [(.ref b93)])
  refine own_retR X96 hx hby hlk hrt rfl d_ta3_10 (by decide) (by decide) rfl ?_
  show Q_ta3 Z a0 c0 kk u0 u1 u2 h0 n0 _ T96.heap _
  rw [e96]
  exact ⟨b93, rfl, N0, K93, sz93, B93, V93'⟩
theorem d_hd3_0 : decode method_3_code 0 = .ok (.aload_n 0, 1) := by decide +kernel
theorem d_hd3_1 : decode method_3_code 1 = .ok (.arraylength, 1) := by decide +kernel
theorem d_hd3_2 : decode method_3_code 2 = .ok (.iload_n 1, 1) := by decide +kernel
theorem d_hd3_3 : decode method_3_code 3 = .ok (.if_icmp .eq 5, 3) := by decide +kernel
theorem d_hd3_8 : decode method_3_code 8 = .ok (.iload_n 1, 1) := by decide +kernel
theorem d_hd3_9 : decode method_3_code 9 = .ok (.iconst 1, 1) := by decide +kernel
theorem d_hd3_10 : decode method_3_code 10 = .ok (.if_icmp .lt 13, 3) := by decide +kernel
theorem d_hd3_13 : decode method_3_code 13 = .ok (.aload_n 0, 1) := by decide +kernel
theorem d_hd3_14 : decode method_3_code 14 = .ok (.iconst 0, 1) := by decide +kernel
theorem d_hd3_15 : decode method_3_code 15 = .ok (.baload, 1) := by decide +kernel
theorem d_hd3_16 : decode method_3_code 16 = .ok (.iload_n 2, 1) := by decide +kernel
theorem d_hd3_17 : decode method_3_code 17 = .ok (.i2b, 1) := by decide +kernel
theorem d_hd3_18 : decode method_3_code 18 = .ok (.if_icmp .eq 5, 3) := by decide +kernel
theorem d_hd3_23 : decode method_3_code 23 = .ok (.iload_n 1, 1) := by decide +kernel
theorem d_hd3_24 : decode method_3_code 24 = .ok (.iconst 2, 1) := by decide +kernel
theorem d_hd3_25 : decode method_3_code 25 = .ok (.if_icmp .lt 13, 3) := by decide +kernel
theorem d_hd3_28 : decode method_3_code 28 = .ok (.aload_n 0, 1) := by decide +kernel
theorem d_hd3_29 : decode method_3_code 29 = .ok (.iconst 1, 1) := by decide +kernel
theorem d_hd3_30 : decode method_3_code 30 = .ok (.baload, 1) := by decide +kernel
theorem d_hd3_31 : decode method_3_code 31 = .ok (.iload_n 3, 1) := by decide +kernel
theorem d_hd3_32 : decode method_3_code 32 = .ok (.i2b, 1) := by decide +kernel
theorem d_hd3_33 : decode method_3_code 33 = .ok (.if_icmp .eq 5, 3) := by decide +kernel
theorem d_hd3_38 : decode method_3_code 38 = .ok (.iload_n 1, 1) := by decide +kernel
theorem d_hd3_39 : decode method_3_code 39 = .ok (.iconst 3, 1) := by decide +kernel
theorem d_hd3_40 : decode method_3_code 40 = .ok (.if_icmp .lt 14, 3) := by decide +kernel
theorem d_hd3_43 : decode method_3_code 43 = .ok (.aload_n 0, 1) := by decide +kernel
theorem d_hd3_44 : decode method_3_code 44 = .ok (.iconst 2, 1) := by decide +kernel
theorem d_hd3_45 : decode method_3_code 45 = .ok (.baload, 1) := by decide +kernel
theorem d_hd3_46 : decode method_3_code 46 = .ok (.iload 4, 2) := by decide +kernel
theorem d_hd3_48 : decode method_3_code 48 = .ok (.i2b, 1) := by decide +kernel
theorem d_hd3_49 : decode method_3_code 49 = .ok (.if_icmp .eq 5, 3) := by decide +kernel
theorem d_hd3_54 : decode method_3_code 54 = .ok (.iconst 1, 1) := by decide +kernel
theorem d_hd3_55 : decode method_3_code 55 = .ok (.ireturn, 1) := by decide +kernel
theorem ef_hd3 (m : MethodId) (a0 : Addr) (x2 : Int32) (x3 : Int32) (x4 : Int32) : entryFrame m #[(.ref a0), (.int (3 : Int32)), (.int x2), (.int x3), (.int x4)] 5 = mkF m 0 #[.val (.ref a0), .val (.int (3 : Int32)), .val (.int x2), .val (.int x3), .val (.int x4)] [] := by first | (simp [entryFrame, mkF, argsToLocals, Value.category]; done) | rfl
def Q_hd3 (Z : State) (a0 : Addr) (x2 : Int32) (x3 : Int32) (x4 : Int32) (kk : ClassId) (h0 : Heap) (n0 : Nat) (v : Option Value) (h : Heap) (L : List Loc) : Prop := v = some (.int (1 : Int32)) ∧ Fr n0 L ∧ h = h0
set_option maxRecDepth 65536 in
set_option maxHeartbeats 40000000 in
theorem rm_hd3 (l : Launch) (Z : State) (aT : Array Value) (hw : ∀ d ∈ tables_1, d.before aT Z = true) (ws : List Jvm.Cond) (a0 : Addr) (x2 : Int32) (x3 : Int32) (x4 : Int32) (kk : ClassId) (h0 : Heap) (n0 : Nat) (Z0 : n0 ≤ h0.size) (hp0 : Arv Z h0 a0 kk .byte (3 : Int32) [(.int (x2.toInt8.toInt32)), (.int (x3.toInt8.toInt32)), (.int (x4.toInt8.toInt32))] (.int (0 : Int32))) :
    MetFree l (⟨"com/example/coppice/coppice/tree/ByteStringOfPinLaw", "holds", "([BIIII)Z"⟩ : MethodName) (head1 (Jvm.Cond.code (⟨"com/example/coppice/coppice/tree/ByteStringOfPinLaw", "holds", "([BIIII)Z"⟩ : MethodName) method_3_code 5 (some .boolean) :: ws) ({ frames := 0, cells := 0, slots := 0, locals := 0 } : Room)) (fun a U => a = #[(.ref a0), (.int (3 : Int32)), (.int x2), (.int x3), (.int x4)] ∧ Z.Warmed39 U.vm ∧ U.heap = h0) (fun _ _ _ _ _ => True) (fun _ U o U' => ∃ v L, o = .returned v ∧ Q_hd3 Z a0 x2 x3 x4 kk h0 n0 v U'.heap L ∧ FrameEnd U o U' L ({ frames := 0, cells := 0, slots := 0, locals := 0 } : Room).cells ({ frames := 0, cells := 0, slots := 0, locals := 0 } : Room).slots) := by
  refine MetFree.of_bodySF (plainFor_of_name pn0) hisR ?_
  intro p e s m args below meth c s₁ Bd hml0 hP hK
  obtain ⟨rfl, hZ, hh⟩ := hP
  have hx := Bd.exec
  have hby := Bd.bytes
  have hml : c.maxLocals = 5 := hml0
  have hown : s.vm.findClass "com/example/coppice/coppice/tree/ByteStringOfPinLaw" = some m.cls := findClass_of_methodNamed Bd.named
  have hnm := (name_of_methodNamed Bd.named Bd.method).1
  have hlk := Bd.notSynchronized
  have hrt := Bd.returns
  have X0 : Stand p l e ({ frames := 0, cells := 0, slots := 0, locals := 0 } : Room) s m #[(.ref a0), (.int (3 : Int32)), (.int x2), (.int x3), (.int x4)] below meth c s₁ [] 0 0 := Stand.of_body Bd
  have e0 : s₁.heap = h0 := by rw [← hh, Bd.state]; rfl
  have N0 := Fr.nil n0
  refine own_cast (P := own_End s (Q_hd3 Z a0 x2 x3 x4 kk h0 n0) ({ frames := 0, cells := 0, slots := 0, locals := 0 } : Room).cells ({ frames := 0, cells := 0, slots := 0, locals := 0 } : Room).slots) (ef_hd3 m a0 x2 x3 x4) ?_
  refine g_aloadN X0 hx hby d_hd3_0 rfl rfl (rfl : 0 + 1 = 1) ?_
  refine g_alen X0 hx hby hZ e0 hp0 d_hd3_1 (rfl : 1 + 1 = 2) ?_
  refine g_iloadN X0 hx hby d_hd3_2 rfl (rfl : 2 + 1 = 3) ?_
  refine g_icT X0 hx hby d_hd3_3 (teq (by decide : (3 : Int32) = (3 : Int32))).1 (by decide) (pc' := 8) (by decide) ?_
  refine g_iloadN X0 hx hby d_hd3_8 rfl (rfl : 8 + 1 = 9) ?_
  refine g_iconst X0 hx hby (1 : Int32) d_hd3_9 (by decide) (rfl : 9 + 1 = 10) ?_
  refine g_icF X0 hx hby d_hd3_10 (flt (by decide : ¬ ((3 : Int32) < (1 : Int32)))).1 (rfl : 10 + 3 = 13) ?_
  refine g_aloadN X0 hx hby d_hd3_13 rfl rfl (rfl : 13 + 1 = 14) ?_
  refine g_iconst X0 hx hby (0 : Int32) d_hd3_14 (by decide) (rfl : 14 + 1 = 15) ?_
  refine g_baload X0 hx hby hZ e0 (v := (.int (x2.toInt8.toInt32))) hp0 ⟨by decide, by decide⟩ rfl d_hd3_15 (rfl : 15 + 1 = 16) ?_
  refine g_iloadN X0 hx hby d_hd3_16 rfl (rfl : 16 + 1 = 17) ?_
  refine g_i2b X0 hx hby d_hd3_17 (rfl : 17 + 1 = 18) ?_
  refine g_icT X0 hx hby d_hd3_18 (teq (rfl : (x2.toInt8.toInt32) = (x2.toInt8.toInt32))).1 (by decide) (pc' := 23) (by decide) ?_
  refine g_iloadN X0 hx hby d_hd3_23 rfl (rfl : 23 + 1 = 24) ?_
  refine g_iconst X0 hx hby (2 : Int32) d_hd3_24 (by decide) (rfl : 24 + 1 = 25) ?_
  refine g_icF X0 hx hby d_hd3_25 (flt (by decide : ¬ ((3 : Int32) < (2 : Int32)))).1 (rfl : 25 + 3 = 28) ?_
  refine g_aloadN X0 hx hby d_hd3_28 rfl rfl (rfl : 28 + 1 = 29) ?_
  refine g_iconst X0 hx hby (1 : Int32) d_hd3_29 (by decide) (rfl : 29 + 1 = 30) ?_
  refine g_baload X0 hx hby hZ e0 (v := (.int (x3.toInt8.toInt32))) hp0 ⟨by decide, by decide⟩ rfl d_hd3_30 (rfl : 30 + 1 = 31) ?_
  refine g_iloadN X0 hx hby d_hd3_31 rfl (rfl : 31 + 1 = 32) ?_
  refine g_i2b X0 hx hby d_hd3_32 (rfl : 32 + 1 = 33) ?_
  refine g_icT X0 hx hby d_hd3_33 (teq (rfl : (x3.toInt8.toInt32) = (x3.toInt8.toInt32))).1 (by decide) (pc' := 38) (by decide) ?_
  refine g_iloadN X0 hx hby d_hd3_38 rfl (rfl : 38 + 1 = 39) ?_
  refine g_iconst X0 hx hby (3 : Int32) d_hd3_39 (by decide) (rfl : 39 + 1 = 40) ?_
  refine g_icF X0 hx hby d_hd3_40 (flt (by decide : ¬ ((3 : Int32) < (3 : Int32)))).1 (rfl : 40 + 3 = 43) ?_
  refine g_aloadN X0 hx hby d_hd3_43 rfl rfl (rfl : 43 + 1 = 44) ?_
  refine g_iconst X0 hx hby (2 : Int32) d_hd3_44 (by decide) (rfl : 44 + 1 = 45) ?_
  refine g_baload X0 hx hby hZ e0 (v := (.int (x4.toInt8.toInt32))) hp0 ⟨by decide, by decide⟩ rfl d_hd3_45 (rfl : 45 + 1 = 46) ?_
  refine g_iload X0 hx hby d_hd3_46 rfl (rfl : 46 + 2 = 48) ?_
  refine g_i2b X0 hx hby d_hd3_48 (rfl : 48 + 1 = 49) ?_
  refine g_icT X0 hx hby d_hd3_49 (teq (rfl : (x4.toInt8.toInt32) = (x4.toInt8.toInt32))).1 (by decide) (pc' := 54) (by decide) ?_
  refine g_iconst X0 hx hby (1 : Int32) d_hd3_54 (by decide) (rfl : 54 + 1 = 55) ?_
  refine own_retN X0 hx hby hlk (t := .boolean) hrt (by simp) d_hd3_55 (by decide) (by decide) ?_
  show Q_hd3 Z a0 x2 x3 x4 kk h0 n0 _ s₁.heap _
  exact ⟨rfl, N0, e0⟩
theorem d_siz_0 : decode prog_64_method_5_code 0 = .ok (.aload_n 0, 1) := by decide +kernel
theorem d_siz_1 : decode prog_64_method_5_code 1 = .ok (.getfield 7, 3) := by decide +kernel
theorem d_siz_4 : decode prog_64_method_5_code 4 = .ok (.arraylength, 1) := by decide +kernel
theorem d_siz_5 : decode prog_64_method_5_code 5 = .ok (.ireturn, 1) := by decide +kernel
theorem ef_siz (m : MethodId) (a0 : Addr) : entryFrame m #[(.ref a0)] 1 = mkF m 0 #[.val (.ref a0)] [] := by first | (simp [entryFrame, mkF, argsToLocals, Value.category]; done) | rfl
def Q_siz (Z : State) (a0 : Addr) (c0 : Addr) (kk : ClassId) (n : Int32) (vs : List Value) (h0 : Heap) (n0 : Nat) (v : Option Value) (h : Heap) (L : List Loc) : Prop := v = some (.int n) ∧ Fr n0 L ∧ h = h0
set_option maxRecDepth 65536 in
set_option maxHeartbeats 40000000 in
theorem rm_siz (l : Launch) (Z : State) (aT : Array Value) (hw : ∀ d ∈ tables_1, d.before aT Z = true) (ws : List Jvm.Cond) (a0 : Addr) (c0 : Addr) (kk : ClassId) (n : Int32) (vs : List Value) (h0 : Heap) (n0 : Nat) (Z0 : n0 ≤ h0.size) (hp0 : Fld Z h0 a0 "com/example/coppice/coppice/tree/ByteString" "_bytes" "[B" (.ref c0)) (hp1 : Arv Z h0 c0 kk .byte n vs (.int (0 : Int32))) :
    MetFree l (⟨"com/example/coppice/coppice/tree/ByteString", "size", "()I"⟩ : MethodName) (head1 (Jvm.Cond.code (⟨"com/example/coppice/coppice/tree/ByteString", "size", "()I"⟩ : MethodName) prog_64_method_5_code 1 (some .int) :: ws) ({ frames := 0, cells := 0, slots := 0, locals := 0 } : Room)) (fun a U => a = #[(.ref a0)] ∧ Z.Warmed39 U.vm ∧ U.heap = h0) (fun _ _ _ _ _ => True) (fun _ U o U' => ∃ v L, o = .returned v ∧ Q_siz Z a0 c0 kk n vs h0 n0 v U'.heap L ∧ FrameEnd U o U' L ({ frames := 0, cells := 0, slots := 0, locals := 0 } : Room).cells ({ frames := 0, cells := 0, slots := 0, locals := 0 } : Room).slots) := by
  refine MetFree.of_bodySF (plainFor_of_name pn1) hisR ?_
  intro p e s m args below meth c s₁ Bd hml0 hP hK
  obtain ⟨rfl, hZ, hh⟩ := hP
  have hx := Bd.exec
  have hby := Bd.bytes
  have hml : c.maxLocals = 1 := hml0
  have hown : s.vm.findClass "com/example/coppice/coppice/tree/ByteString" = some m.cls := findClass_of_methodNamed Bd.named
  have hnm := (name_of_methodNamed Bd.named Bd.method).1
  have hlk := Bd.notSynchronized
  have hrt := Bd.returns
  have X0 : Stand p l e ({ frames := 0, cells := 0, slots := 0, locals := 0 } : Room) s m #[(.ref a0)] below meth c s₁ [] 0 0 := Stand.of_body Bd
  have e0 : s₁.heap = h0 := by rw [← hh, Bd.state]; rfl
  have N0 := Fr.nil n0
  refine own_cast (P := own_End s (Q_siz Z a0 c0 kk n vs h0 n0) ({ frames := 0, cells := 0, slots := 0, locals := 0 } : Room).cells ({ frames := 0, cells := 0, slots := 0, locals := 0 } : Room).slots) (ef_siz m a0) ?_
  refine g_aloadN X0 hx hby d_siz_0 rfl rfl (rfl : 0 + 1 = 1) ?_
  obtain ⟨T97, X97, e97, st97⟩ := getF X0 hx hZ hown (host := "") (Or.inl (hw _ (List.mem_of_getElem? (i := 26) rfl))) Via.refl e0 hp0 (g := (mkF m 1 #[.val (.ref a0)] [(.ref a0)])) rfl rfl (hb hby d_siz_1)
  refine own_go st97 ?_
  show own_Got p e below _ T97 (mkF m 4 #[.val (.ref a0)] [(.ref c0)])
  refine g_alen X97 hx hby hZ e97 hp1 d_siz_4 (rfl : 4 + 1 = 5) ?_
  refine own_retI X97 hx hby hlk hrt d_siz_5 (by decide) (by decide) ?_
  show Q_siz Z a0 c0 kk n vs h0 n0 _ T97.heap _
  exact ⟨rfl, N0, e97⟩
theorem own_and3 (x : Int32) : x &&& (3 : Int32) = 0 ∨ x &&& (3 : Int32) = 1 ∨ x &&& (3 : Int32) = 2 ∨ x &&& (3 : Int32) = 3 := by
  have h := c_and x 3 (by decide)
  have h7 : (3 : Int32).toInt = 3 := by decide
  generalize x &&& (3 : Int32) = y at h ⊢
  have h3 : y.toInt = 0 ∨ y.toInt = 1 ∨ y.toInt = 2 ∨ y.toInt = 3 := by omega
  simp only [← Int32.toInt_inj]
  exact h3

theorem pd1 : parseMethodDescriptor "(IIII)[B" = some ⟨[.int, .int, .int, .int], some (.array .byte)⟩ := by decide +kernel
theorem pd2 : parseMethodDescriptor "([B)Lcom/example/coppice/coppice/tree/ByteString;" = some ⟨[(.array .byte)], some (.object "com/example/coppice/coppice/tree/ByteString")⟩ := by decide +kernel
theorem pd3 : parseMethodDescriptor "()I" = some ⟨[], some .int⟩ := by decide +kernel
theorem pd4 : parseMethodDescriptor "()[B" = some ⟨[], some (.array .byte)⟩ := by decide +kernel
theorem pd5 : parseMethodDescriptor "([BIIII)Z" = some ⟨[(.array .byte), .int, .int, .int, .int], some .boolean⟩ := by decide +kernel
theorem ef_law (m : MethodId) (x0 : Int32) (x1 : Int32) (x2 : Int32) (x3 : Int32) : entryFrame m #[(.int x0), (.int x1), (.int x2), (.int x3)] maxLocals = mkF m 0 #[.val (.int x0), .val (.int x1), .val (.int x2), .val (.int x3), .unset, .unset, .unset] [] := by first | (simp [entryFrame, mkF, argsToLocals, Value.category, maxLocals]; done) | rfl
def Q_law (Z : State) (x0 : Int32) (x1 : Int32) (x2 : Int32) (x3 : Int32) (h0 : Heap) (n0 : Nat) (v : Option Value) (h : Heap) (L : List Loc) : Prop := v = some (.int (1 : Int32)) ∧ Fr n0 L
set_option maxRecDepth 65536 in
set_option maxHeartbeats 40000000 in
theorem rm_law (l : Launch) (Z : State) (aT : Array Value) (hw : ∀ d ∈ tables_1, d.before aT Z = true) (ws : List Jvm.Cond) (x0 : Int32) (x1 : Int32) (x2 : Int32) (x3 : Int32) (h0 : Heap) (n0 : Nat) (Z0 : n0 ≤ h0.size) :
    MetFree l x (head1 (Jvm.Cond.code x code maxLocals ret :: ws) room_1) (fun a U => a = #[(.int x0), (.int x1), (.int x2), (.int x3)] ∧ Z.Warmed39 U.vm ∧ U.heap = h0) (fun _ _ _ _ _ => True) (fun _ U o U' => ∃ v L, o = .returned v ∧ Q_law Z x0 x1 x2 x3 h0 n0 v U'.heap L ∧ FrameEnd U o U' L 24 128) := by
  refine MetFree.of_bodySF (plainFor_of_name pn0) hisR ?_
  intro p e s m args below meth c s₁ Bd hml0 hP hK
  obtain ⟨rfl, hZ, hh⟩ := hP
  have hx := Bd.exec
  have hby := Bd.bytes
  have hml : c.maxLocals = 7 := hml0
  have hown : s.vm.findClass "com/example/coppice/coppice/tree/ByteStringOfPinLaw" = some m.cls := findClass_of_methodNamed Bd.named
  have hnm := (name_of_methodNamed Bd.named Bd.method).1
  have hlk := Bd.notSynchronized
  have hrt := Bd.returns
  have X0 : Stand p l e room_1 s m #[(.int x0), (.int x1), (.int x2), (.int x3)] below meth c s₁ [] 0 0 := Stand.of_body Bd
  have e0 : s₁.heap = h0 := by rw [← hh, Bd.state]; rfl
  have N0 := Fr.nil n0
  refine own_cast (P := own_End s (Q_law Z x0 x1 x2 x3 h0 n0) 24 128) (ef_law m x0 x1 x2 x3) ?_
  refine g_iloadN X0 hx hby at_0 rfl (rfl : 0 + 1 = 1) ?_
  refine g_iconst X0 hx hby (3 : Int32) at_1 (by decide) (rfl : 1 + 1 = 2) ?_
  refine g_iand X0 hx hby at_2 (rfl : 2 + 1 = 3) ?_
  refine g_istore X0 hx hby #[.val (.int x0), .val (.int x1), .val (.int x2), .val (.int x3), .val (.int (x0 &&& (3 : Int32))), .unset, .unset] at_3 rfl (rfl : 3 + 2 = 5) ?_
  rcases own_and3 x0 with hk98 | hk98 | hk98 | hk98
  · rw [hk98]
    refine g_iload X0 hx hby at_5 rfl (rfl : 5 + 2 = 7) ?_
    refine g_iloadN X0 hx hby at_7 rfl (rfl : 7 + 1 = 8) ?_
    refine g_iloadN X0 hx hby at_8 rfl (rfl : 8 + 1 = 9) ?_
    refine g_iloadN X0 hx hby at_9 rfl (rfl : 9 + 1 = 10) ?_
    obtain ⟨_, _, ⟨T99, L99, k99, n99⟩, -, X99, ⟨Lc99, hQ99, l99, y99, z99⟩, st99⟩ := Jvm.LawKit.callS X0 hx (y := (⟨"com/example/coppice/coppice/tree/ByteStringOfPinLaw", "make", "(IIII)[B"⟩ : MethodName)) hown (mvT hZ (hw _ (List.mem_of_getElem? (i := 0) rfl))) (mvT hZ (hw _ (List.mem_of_getElem? (i := 1) rfl))) (mvT hZ (hw _ (List.mem_of_getElem? (i := 2) rfl))) (mvT hZ (hw _ (List.mem_of_getElem? (i := 3) rfl))) (by decide) (backOf (W := 0) (rm_mk0 l Z aT hw [] x1 x2 x3 h0 n0 Z0) hZ (hw _ (List.mem_of_getElem? (i := 3) rfl)) (hw _ (List.mem_of_getElem? (i := 2) rfl)) (by decide) (by decide)) (g := (mkF m 10 #[.val (.int x0), .val (.int x1), .val (.int x2), .val (.int x3), .val (.int (0 : Int32)), .unset, .unset] [(.int x3), (.int x2), (.int x1), (.int (0 : Int32))])) rfl (by rw [hml]; rfl) (argsL := [(.int (0 : Int32)), (.int x1), (.int x2), (.int x3)]) (rest := []) (lenOf pd1 rfl) rfl (by show 2 * 0 + _ ≤ _; exact Nat.le_of_eq rfl) (hb hby at_10) (fun _ _ => ⟨rfl, e0, (by decide : 0 + 1 ≤ _), (by decide : 0 + 0 ≤ _)⟩)
    dsimp only [Pt.U, Pt.locs, Pt.cells, Pt.slots] at X99 l99 y99 z99 st99 hQ99
    subst l99 y99 z99
    obtain ⟨ob_99, kk_99, rfl, N99q, K99, q99_0, q99_1, q99_2⟩ := hQ99
    have N99 := Fr.app N0 N99q
    have Z99 : n0 ≤ T99.heap.size := Nat.le_trans Z0 K99.1
    have ge100 : n0 ≤ ob_99 := Nat.le_trans Z0 q99_0
    refine own_go st99 ?_
    show own_Got p e below _ T99 (mkF m 13 #[.val (.int x0), .val (.int x1), .val (.int x2), .val (.int x3), .val (.int (0 : Int32)), .unset, .unset] [(.ref ob_99)])
    refine g_astore X99 hx hby #[.val (.int x0), .val (.int x1), .val (.int x2), .val (.int x3), .val (.int (0 : Int32)), .val (.ref ob_99), .unset] at_13 rfl rfl (rfl : 13 + 2 = 15) ?_
    refine g_aload X99 hx hby at_15 rfl rfl (rfl : 15 + 2 = 17) ?_
    obtain ⟨_, _, ⟨T101, L101, k101, n101⟩, -, X101, ⟨Lc101, hQ101, l101, y101, z101⟩, st101⟩ := Jvm.LawKit.callS X99 hx (y := (⟨"com/example/coppice/coppice/tree/ByteString", "of", "([B)Lcom/example/coppice/coppice/tree/ByteString;"⟩ : MethodName)) hown (mvT hZ (hw _ (List.mem_of_getElem? (i := 5) rfl))) (mvT hZ (hw _ (List.mem_of_getElem? (i := 6) rfl))) (mvT hZ (hw _ (List.mem_of_getElem? (i := 7) rfl))) (mvT hZ (hw _ (List.mem_of_getElem? (i := 8) rfl))) (by decide) (backOf (W := 0) (rm_of0 l Z aT hw [] ob_99 kk_99 T99.heap n0 Z99 q99_1 q99_2) hZ (hw _ (List.mem_of_getElem? (i := 8) rfl)) (hw _ (List.mem_of_getElem? (i := 7) rfl)) (by decide) (by decide)) (g := (mkF m 17 #[.val (.int x0), .val (.int x1), .val (.int x2), .val (.int x3), .val (.int (0 : Int32)), .val (.ref ob_99), .unset] [(.ref ob_99)])) rfl (by rw [hml]; rfl) (argsL := [(.ref ob_99)]) (rest := []) (lenOf pd2 rfl) rfl (by show 2 * 0 + _ ≤ _; exact Nat.le_of_eq rfl) (hb hby at_17) (fun _ _ => ⟨rfl, rfl, (by decide : 1 + 2 ≤ _), (by decide : 0 + 1 ≤ _)⟩)
    dsimp only [Pt.U, Pt.locs, Pt.cells, Pt.slots] at X101 l101 y101 z101 st101 hQ101
    subst l101 y101 z101
    obtain ⟨ob_101, oc_101, rfl, N101q, K101, q101_0, q101_1, q101_2, q101_3, q101_4, q101_5⟩ := hQ101
    have N101 := Fr.app N99 N101q
    have Z101 : n0 ≤ T101.heap.size := Nat.le_trans Z99 K101.1
    have ne102 : ob_99 ≠ ob_101 := Nat.ne_of_lt (Nat.lt_of_lt_of_le (q99_1).lt q101_0)
    have ge103 : n0 ≤ ob_101 := Nat.le_trans Z99 q101_0
    have ne104 : ob_99 ≠ oc_101 := Nat.ne_of_lt (Nat.lt_of_lt_of_le (q99_1).lt q101_3)
    have ge105 : n0 ≤ oc_101 := Nat.le_trans Z99 q101_3
    refine own_go st101 ?_
    show own_Got p e below _ T101 (mkF m 20 #[.val (.int x0), .val (.int x1), .val (.int x2), .val (.int x3), .val (.int (0 : Int32)), .val (.ref ob_99), .unset] [(.ref ob_101)])
    refine g_astore X101 hx hby #[.val (.int x0), .val (.int x1), .val (.int x2), .val (.int x3), .val (.int (0 : Int32)), .val (.ref ob_99), .val (.ref ob_101)] at_20 rfl rfl (rfl : 20 + 2 = 22) ?_
    refine g_aload X101 hx hby at_22 rfl rfl (rfl : 22 + 2 = 24) ?_
    obtain ⟨cq106, kq106, q106a, q106b, q106c⟩ := isOf hZ rfl q101_1
    obtain ⟨_, _, ⟨T106, L106, k106, n106⟩, -, X106, ⟨Lc106, hQ106, l106, y106, z106⟩, st106⟩ := X101.virtualBack hx (y := (⟨"com/example/coppice/coppice/tree/ByteString", "size", "()I"⟩ : MethodName)) (z := (⟨"com/example/coppice/coppice/tree/ByteString", "size", "()I"⟩ : MethodName)) hown (mvT hZ (hw _ (List.mem_of_getElem? (i := 28) rfl))) (mvT hZ (hw _ (List.mem_of_getElem? (i := 29) rfl))) (notFace_of_selects (args := #[]) (mvT hZ (hw _ (List.mem_of_getElem? (i := 31) rfl)))) (mvT hZ (hw _ (List.mem_of_getElem? (i := 31) rfl))) (mvT hZ (hw _ (List.mem_of_getElem? (i := 30) rfl))) (by decide) (backOf (W := 0) (rm_siz l Z aT hw [] ob_101 oc_101 kk_99 (0 : Int32) [] T101.heap n0 Z101 q101_2 q101_5) hZ (hw _ (List.mem_of_getElem? (i := 32) rfl)) (hw _ (List.mem_of_getElem? (i := 7) rfl)) (by decide) (by decide)) q106a q106c (g := (mkF m 24 #[.val (.int x0), .val (.int x1), .val (.int x2), .val (.int x3), .val (.int (0 : Int32)), .val (.ref ob_99), .val (.ref ob_101)] [(.ref ob_101)])) rfl (by rw [hml]; rfl) (Steps.refl _) (argsL := []) (rest := []) (lenOf pd3 rfl) rfl (by show 2 * 0 + _ ≤ _; exact Nat.le_of_eq rfl) (hb hby at_24) (fun _ _ => ⟨rfl, rfl, (by decide : 3 + 0 ≤ _), (by decide : 1 + 0 ≤ _)⟩)
    dsimp only [Pt.U, Pt.locs, Pt.cells, Pt.slots] at X106 l106 y106 z106 st106 hQ106
    subst l106 y106 z106
    obtain ⟨rfl, N106q, eq106⟩ := hQ106
    have N106 := Fr.app N101 N106q
    refine own_tr st106 ?_
    show own_Got p e below _ T106 (mkF m 27 #[.val (.int x0), .val (.int x1), .val (.int x2), .val (.int x3), .val (.int (0 : Int32)), .val (.ref ob_99), .val (.ref ob_101)] [(.int (0 : Int32))])
    refine g_iload X106 hx hby at_27 rfl (rfl : 27 + 2 = 29) ?_
    refine g_icT X106 hx hby at_29 (teq (by decide : (0 : Int32) = (0 : Int32))).1 (by decide) (pc' := 34) (by decide) ?_
    refine g_aload X106 hx hby at_34 rfl rfl (rfl : 34 + 2 = 36) ?_
    have f108 : Exa Z T101.heap ob_99 "[B" := (Exa.keep q99_1 K101)
    obtain ⟨cq107, kq107, q107a, q107b, q107c⟩ := isOf hZ eq106 q101_1
    obtain ⟨_, _, ⟨T107, L107, k107, n107⟩, -, X107, ⟨Lc107, hQ107, l107, y107, z107⟩, st107⟩ := X106.virtualBack hx (y := (⟨"com/example/coppice/coppice/tree/ByteString", "toByteArray", "()[B"⟩ : MethodName)) (z := (⟨"com/example/coppice/coppice/tree/ByteString", "toByteArray", "()[B"⟩ : MethodName)) hown (mvT hZ (hw _ (List.mem_of_getElem? (i := 33) rfl))) (mvT hZ (hw _ (List.mem_of_getElem? (i := 34) rfl))) (notFace_of_selects (args := #[]) (mvT hZ (hw _ (List.mem_of_getElem? (i := 36) rfl)))) (mvT hZ (hw _ (List.mem_of_getElem? (i := 36) rfl))) (mvT hZ (hw _ (List.mem_of_getElem? (i := 35) rfl))) (by decide) (backOf (W := 0) (rm_ta0 l Z aT hw [] ob_101 oc_101 kk_99 T101.heap n0 Z101 q101_2 q101_4 q101_5) hZ (hw _ (List.mem_of_getElem? (i := 37) rfl)) (hw _ (List.mem_of_getElem? (i := 7) rfl)) (by decide) (by decide)) q107a q107c (g := (mkF m 36 #[.val (.int x0), .val (.int x1), .val (.int x2), .val (.int x3), .val (.int (0 : Int32)), .val (.ref ob_99), .val (.ref ob_101)] [(.ref ob_101)])) rfl (by rw [hml]; rfl) (Steps.refl _) (argsL := []) (rest := []) (lenOf pd4 rfl) rfl (by show 2 * 0 + _ ≤ _; exact Nat.le_of_eq rfl) (hb hby at_36) (fun _ _ => ⟨rfl, eq106, (by decide : 3 + 1 ≤ _), (by decide : 1 + 0 ≤ _)⟩)
    dsimp only [Pt.U, Pt.locs, Pt.cells, Pt.slots] at X107 l107 y107 z107 st107 hQ107
    subst l107 y107 z107
    obtain ⟨oc_107, rfl, N107q, K107, q107_0, q107_1, q107_2⟩ := hQ107
    have N107 := Fr.app N106 N107q
    have Z107 : n0 ≤ T107.heap.size := Nat.le_trans Z101 K107.1
    have ne109 : ob_99 ≠ oc_107 := Nat.ne_of_lt (Nat.lt_of_lt_of_le (f108).lt q107_0)
    have ne110 : ob_101 ≠ oc_107 := Nat.ne_of_lt (Nat.lt_of_lt_of_le (q101_1).lt q107_0)
    have ne111 : oc_101 ≠ oc_107 := Nat.ne_of_lt (Nat.lt_of_lt_of_le (q101_4).lt q107_0)
    have ge112 : n0 ≤ oc_107 := Nat.le_trans Z101 q107_0
    refine own_tr st107 ?_
    show own_Got p e below _ T107 (mkF m 39 #[.val (.int x0), .val (.int x1), .val (.int x2), .val (.int x3), .val (.int (0 : Int32)), .val (.ref ob_99), .val (.ref ob_101)] [(.ref oc_107)])
    refine g_iload X107 hx hby at_39 rfl (rfl : 39 + 2 = 41) ?_
    refine g_iloadN X107 hx hby at_41 rfl (rfl : 41 + 1 = 42) ?_
    refine g_iloadN X107 hx hby at_42 rfl (rfl : 42 + 1 = 43) ?_
    refine g_iloadN X107 hx hby at_43 rfl (rfl : 43 + 1 = 44) ?_
    obtain ⟨_, _, ⟨T113, L113, k113, n113⟩, -, X113, ⟨Lc113, hQ113, l113, y113, z113⟩, st113⟩ := Jvm.LawKit.callS X107 hx (y := (⟨"com/example/coppice/coppice/tree/ByteStringOfPinLaw", "holds", "([BIIII)Z"⟩ : MethodName)) hown (mvT hZ (hw _ (List.mem_of_getElem? (i := 38) rfl))) (mvT hZ (hw _ (List.mem_of_getElem? (i := 39) rfl))) (mvT hZ (hw _ (List.mem_of_getElem? (i := 2) rfl))) (mvT hZ (hw _ (List.mem_of_getElem? (i := 40) rfl))) (by decide) (backOf (W := 0) (rm_hd0 l Z aT hw [] oc_107 x1 x2 x3 kk_99 T107.heap n0 Z107 q107_2) hZ (hw _ (List.mem_of_getElem? (i := 40) rfl)) (hw _ (List.mem_of_getElem? (i := 2) rfl)) (by decide) (by decide)) (g := (mkF m 44 #[.val (.int x0), .val (.int x1), .val (.int x2), .val (.int x3), .val (.int (0 : Int32)), .val (.ref ob_99), .val (.ref ob_101)] [(.int x3), (.int x2), (.int x1), (.int (0 : Int32)), (.ref oc_107)])) rfl (by rw [hml]; rfl) (argsL := [(.ref oc_107), (.int (0 : Int32)), (.int x1), (.int x2), (.int x3)]) (rest := []) (lenOf pd5 rfl) rfl (by show 2 * 0 + _ ≤ _; exact Nat.le_of_eq rfl) (hb hby at_44) (fun _ _ => ⟨rfl, rfl, (by decide : 4 + 0 ≤ _), (by decide : 1 + 0 ≤ _)⟩)
    dsimp only [Pt.U, Pt.locs, Pt.cells, Pt.slots] at X113 l113 y113 z113 st113 hQ113
    subst l113 y113 z113
    obtain ⟨rfl, N113q, eq113⟩ := hQ113
    have N113 := Fr.app N107 N113q
    refine own_go st113 ?_
    show own_Got p e below _ T113 (mkF m 47 #[.val (.int x0), .val (.int x1), .val (.int x2), .val (.int x3), .val (.int (0 : Int32)), .val (.ref ob_99), .val (.ref ob_101)] [(.int (1 : Int32))])
    refine g_ifT X113 hx hby at_47 ((if0 _ _).trans (feq (by decide : ¬ ((1 : Int32) = (0 : Int32)))).2) (by decide) (pc' := 52) (by decide) ?_
    refine g_iload X113 hx hby at_52 rfl (rfl : 52 + 2 = 54) ?_
    refine g_iconst X113 hx hby (1 : Int32) at_54 (by decide) (rfl : 54 + 1 = 55) ?_
    refine g_icT X113 hx hby at_55 (tlt (by decide : (0 : Int32) < (1 : Int32))).1 (by decide) (pc' := 69) (by decide) ?_
    refine g_iload X113 hx hby at_69 rfl (rfl : 69 + 2 = 71) ?_
    refine g_iconst X113 hx hby (2 : Int32) at_71 (by decide) (rfl : 71 + 1 = 72) ?_
    refine g_icT X113 hx hby at_72 (tlt (by decide : (0 : Int32) < (2 : Int32))).1 (by decide) (pc' := 86) (by decide) ?_
    refine g_iload X113 hx hby at_86 rfl (rfl : 86 + 2 = 88) ?_
    refine g_iconst X113 hx hby (3 : Int32) at_88 (by decide) (rfl : 88 + 1 = 89) ?_
    refine g_icT X113 hx hby at_89 (tlt (by decide : (0 : Int32) < (3 : Int32))).1 (by decide) (pc' := 103) (by decide) ?_
    refine g_aload X113 hx hby at_103 rfl rfl (rfl : 103 + 2 = 105) ?_
    have f115 : Fld Z T107.heap ob_101 "com/example/coppice/coppice/tree/ByteString" "_bytes" "[B" (.ref oc_101) := (Fld.keep q101_2 K107 nin0)
    have f116 : Arv Z T107.heap oc_101 kk_99 .byte (0 : Int32) [] (.int (0 : Int32)) := (Arv.keep q101_5 K107 nin0)
    have f117 : Exa Z T107.heap ob_101 "com/example/coppice/coppice/tree/ByteString" := (Exa.keep q101_1 K107)
    obtain ⟨cq114, kq114, q114a, q114b, q114c⟩ := isOf hZ eq113 f117
    obtain ⟨_, _, ⟨T114, L114, k114, n114⟩, -, X114, ⟨Lc114, hQ114, l114, y114, z114⟩, st114⟩ := X113.virtualBack hx (y := (⟨"com/example/coppice/coppice/tree/ByteString", "size", "()I"⟩ : MethodName)) (z := (⟨"com/example/coppice/coppice/tree/ByteString", "size", "()I"⟩ : MethodName)) hown (mvT hZ (hw _ (List.mem_of_getElem? (i := 28) rfl))) (mvT hZ (hw _ (List.mem_of_getElem? (i := 29) rfl))) (notFace_of_selects (args := #[]) (mvT hZ (hw _ (List.mem_of_getElem? (i := 31) rfl)))) (mvT hZ (hw _ (List.mem_of_getElem? (i := 31) rfl))) (mvT hZ (hw _ (List.mem_of_getElem? (i := 30) rfl))) (by decide) (backOf (W := 0) (rm_siz l Z aT hw [] ob_101 oc_101 kk_99 (0 : Int32) [] T107.heap n0 Z107 f115 f116) hZ (hw _ (List.mem_of_getElem? (i := 32) rfl)) (hw _ (List.mem_of_getElem? (i := 7) rfl)) (by decide) (by decide)) q114a q114c (g := (mkF m 105 #[.val (.int x0), .val (.int x1), .val (.int x2), .val (.int x3), .val (.int (0 : Int32)), .val (.ref ob_99), .val (.ref ob_101)] [(.ref ob_101)])) rfl (by rw [hml]; rfl) (Steps.refl _) (argsL := []) (rest := []) (lenOf pd3 rfl) rfl (by show 2 * 0 + _ ≤ _; exact Nat.le_of_eq rfl) (hb hby at_105) (fun _ _ => ⟨rfl, eq113, (by decide : 4 + 0 ≤ _), (by decide : 1 + 0 ≤ _)⟩)
    dsimp only [Pt.U, Pt.locs, Pt.cells, Pt.slots] at X114 l114 y114 z114 st114 hQ114
    subst l114 y114 z114
    obtain ⟨rfl, N114q, eq114⟩ := hQ114
    have N114 := Fr.app N113 N114q
    refine own_tr st114 ?_
    show own_Got p e below _ T114 (mkF m 108 #[.val (.int x0), .val (.int x1), .val (.int x2), .val (.int x3), .val (.int (0 : Int32)), .val (.ref ob_99), .val (.ref ob_101)] [(.int (0 : Int32))])
    refine g_iload X114 hx hby at_108 rfl (rfl : 108 + 2 = 110) ?_
    refine g_icT X114 hx hby at_110 (teq (by decide : (0 : Int32) = (0 : Int32))).1 (by decide) (pc' := 115) (by decide) ?_
    refine g_aload X114 hx hby at_115 rfl rfl (rfl : 115 + 2 = 117) ?_
    have f119 : Exa Z T107.heap oc_101 "[B" := (Exa.keep q101_4 K107)
    have f120 : Exa Z T107.heap ob_99 "[B" := (Exa.keep f108 K107)
    obtain ⟨cq118, kq118, q118a, q118b, q118c⟩ := isOf hZ eq114 f117
    obtain ⟨_, _, ⟨T118, L118, k118, n118⟩, -, X118, ⟨Lc118, hQ118, l118, y118, z118⟩, st118⟩ := X114.virtualBack hx (y := (⟨"com/example/coppice/coppice/tree/ByteString", "toByteArray", "()[B"⟩ : MethodName)) (z := (⟨"com/example/coppice/coppice/tree/ByteString", "toByteArray", "()[B"⟩ : MethodName)) hown (mvT hZ (hw _ (List.mem_of_getElem? (i := 33) rfl))) (mvT hZ (hw _ (List.mem_of_getElem? (i := 34) rfl))) (notFace_of_selects (args := #[]) (mvT hZ (hw _ (List.mem_of_getElem? (i := 36) rfl)))) (mvT hZ (hw _ (List.mem_of_getElem? (i := 36) rfl))) (mvT hZ (hw _ (List.mem_of_getElem? (i := 35) rfl))) (by decide) (backOf (W := 0) (rm_ta0 l Z aT hw [] ob_101 oc_101 kk_99 T107.heap n0 Z107 f115 f119 f116) hZ (hw _ (List.mem_of_getElem? (i := 37) rfl)) (hw _ (List.mem_of_getElem? (i := 7) rfl)) (by decide) (by decide)) q118a q118c (g := (mkF m 117 #[.val (.int x0), .val (.int x1), .val (.int x2), .val (.int x3), .val (.int (0 : Int32)), .val (.ref ob_99), .val (.ref ob_101)] [(.ref ob_101)])) rfl (by rw [hml]; rfl) (Steps.refl _) (argsL := []) (rest := []) (lenOf pd4 rfl) rfl (by show 2 * 0 + _ ≤ _; exact Nat.le_of_eq rfl) (hb hby at_117) (fun _ _ => ⟨rfl, eq114, (by decide : 4 + 1 ≤ _), (by decide : 1 + 0 ≤ _)⟩)
    dsimp only [Pt.U, Pt.locs, Pt.cells, Pt.slots] at X118 l118 y118 z118 st118 hQ118
    subst l118 y118 z118
    obtain ⟨oc_118, rfl, N118q, K118, q118_0, q118_1, q118_2⟩ := hQ118
    have N118 := Fr.app N114 N118q
    have Z118 : n0 ≤ T118.heap.size := Nat.le_trans Z107 K118.1
    have ne121 : ob_99 ≠ oc_118 := Nat.ne_of_lt (Nat.lt_of_lt_of_le (f120).lt q118_0)
    have ne122 : ob_101 ≠ oc_118 := Nat.ne_of_lt (Nat.lt_of_lt_of_le (f117).lt q118_0)
    have ne123 : oc_101 ≠ oc_118 := Nat.ne_of_lt (Nat.lt_of_lt_of_le (f119).lt q118_0)
    have ne124 : oc_107 ≠ oc_118 := Nat.ne_of_lt (Nat.lt_of_lt_of_le (q107_1).lt q118_0)
    have ge125 : n0 ≤ oc_118 := Nat.le_trans Z107 q118_0
    refine own_tr st118 ?_
    show own_Got p e below _ T118 (mkF m 120 #[.val (.int x0), .val (.int x1), .val (.int x2), .val (.int x3), .val (.int (0 : Int32)), .val (.ref ob_99), .val (.ref ob_101)] [(.ref oc_118)])
    refine g_iload X118 hx hby at_120 rfl (rfl : 120 + 2 = 122) ?_
    refine g_iloadN X118 hx hby at_122 rfl (rfl : 122 + 1 = 123) ?_
    refine g_iloadN X118 hx hby at_123 rfl (rfl : 123 + 1 = 124) ?_
    refine g_iloadN X118 hx hby at_124 rfl (rfl : 124 + 1 = 125) ?_
    obtain ⟨_, _, ⟨T126, L126, k126, n126⟩, -, X126, ⟨Lc126, hQ126, l126, y126, z126⟩, st126⟩ := Jvm.LawKit.callS X118 hx (y := (⟨"com/example/coppice/coppice/tree/ByteStringOfPinLaw", "holds", "([BIIII)Z"⟩ : MethodName)) hown (mvT hZ (hw _ (List.mem_of_getElem? (i := 38) rfl))) (mvT hZ (hw _ (List.mem_of_getElem? (i := 39) rfl))) (mvT hZ (hw _ (List.mem_of_getElem? (i := 2) rfl))) (mvT hZ (hw _ (List.mem_of_getElem? (i := 40) rfl))) (by decide) (backOf (W := 0) (rm_hd0 l Z aT hw [] oc_118 x1 x2 x3 kk_99 T118.heap n0 Z118 q118_2) hZ (hw _ (List.mem_of_getElem? (i := 40) rfl)) (hw _ (List.mem_of_getElem? (i := 2) rfl)) (by decide) (by decide)) (g := (mkF m 125 #[.val (.int x0), .val (.int x1), .val (.int x2), .val (.int x3), .val (.int (0 : Int32)), .val (.ref ob_99), .val (.ref ob_101)] [(.int x3), (.int x2), (.int x1), (.int (0 : Int32)), (.ref oc_118)])) rfl (by rw [hml]; rfl) (argsL := [(.ref oc_118), (.int (0 : Int32)), (.int x1), (.int x2), (.int x3)]) (rest := []) (lenOf pd5 rfl) rfl (by show 2 * 0 + _ ≤ _; exact Nat.le_of_eq rfl) (hb hby at_125) (fun _ _ => ⟨rfl, rfl, (by decide : 5 + 0 ≤ _), (by decide : 1 + 0 ≤ _)⟩)
    dsimp only [Pt.U, Pt.locs, Pt.cells, Pt.slots] at X126 l126 y126 z126 st126 hQ126
    subst l126 y126 z126
    obtain ⟨rfl, N126q, eq126⟩ := hQ126
    have N126 := Fr.app N118 N126q
    refine own_go st126 ?_
    show own_Got p e below _ T126 (mkF m 128 #[.val (.int x0), .val (.int x1), .val (.int x2), .val (.int x3), .val (.int (0 : Int32)), .val (.ref ob_99), .val (.ref ob_101)] [(.int (1 : Int32))])
    refine own_retN X126 hx hby hlk (t := .boolean) hrt (by simp) at_128 (by decide) (by decide) ?_
    show Q_law Z x0 x1 x2 x3 h0 n0 _ T126.heap _
    exact ⟨rfl, N126⟩
  · rw [hk98]
    refine g_iload X0 hx hby at_5 rfl (rfl : 5 + 2 = 7) ?_
    refine g_iloadN X0 hx hby at_7 rfl (rfl : 7 + 1 = 8) ?_
    refine g_iloadN X0 hx hby at_8 rfl (rfl : 8 + 1 = 9) ?_
    refine g_iloadN X0 hx hby at_9 rfl (rfl : 9 + 1 = 10) ?_
    obtain ⟨_, _, ⟨T127, L127, k127, n127⟩, -, X127, ⟨Lc127, hQ127, l127, y127, z127⟩, st127⟩ := Jvm.LawKit.callS X0 hx (y := (⟨"com/example/coppice/coppice/tree/ByteStringOfPinLaw", "make", "(IIII)[B"⟩ : MethodName)) hown (mvT hZ (hw _ (List.mem_of_getElem? (i := 0) rfl))) (mvT hZ (hw _ (List.mem_of_getElem? (i := 1) rfl))) (mvT hZ (hw _ (List.mem_of_getElem? (i := 2) rfl))) (mvT hZ (hw _ (List.mem_of_getElem? (i := 3) rfl))) (by decide) (backOf (W := 0) (rm_mk1 l Z aT hw [] x1 x2 x3 h0 n0 Z0) hZ (hw _ (List.mem_of_getElem? (i := 3) rfl)) (hw _ (List.mem_of_getElem? (i := 2) rfl)) (by decide) (by decide)) (g := (mkF m 10 #[.val (.int x0), .val (.int x1), .val (.int x2), .val (.int x3), .val (.int (1 : Int32)), .unset, .unset] [(.int x3), (.int x2), (.int x1), (.int (1 : Int32))])) rfl (by rw [hml]; rfl) (argsL := [(.int (1 : Int32)), (.int x1), (.int x2), (.int x3)]) (rest := []) (lenOf pd1 rfl) rfl (by show 2 * 0 + _ ≤ _; exact Nat.le_of_eq rfl) (hb hby at_10) (fun _ _ => ⟨rfl, e0, (by decide : 0 + 1 ≤ _), (by decide : 0 + 1 ≤ _)⟩)
    dsimp only [Pt.U, Pt.locs, Pt.cells, Pt.slots] at X127 l127 y127 z127 st127 hQ127
    subst l127 y127 z127
    obtain ⟨ob_127, kk_127, rfl, N127q, K127, q127_0, q127_1, q127_2⟩ := hQ127
    have N127 := Fr.app N0 N127q
    have Z127 : n0 ≤ T127.heap.size := Nat.le_trans Z0 K127.1
    have ge128 : n0 ≤ ob_127 := Nat.le_trans Z0 q127_0
    refine own_go st127 ?_
    show own_Got p e below _ T127 (mkF m 13 #[.val (.int x0), .val (.int x1), .val (.int x2), .val (.int x3), .val (.int (1 : Int32)), .unset, .unset] [(.ref ob_127)])
    refine g_astore X127 hx hby #[.val (.int x0), .val (.int x1), .val (.int x2), .val (.int x3), .val (.int (1 : Int32)), .val (.ref ob_127), .unset] at_13 rfl rfl (rfl : 13 + 2 = 15) ?_
    refine g_aload X127 hx hby at_15 rfl rfl (rfl : 15 + 2 = 17) ?_
    obtain ⟨_, _, ⟨T129, L129, k129, n129⟩, -, X129, ⟨Lc129, hQ129, l129, y129, z129⟩, st129⟩ := Jvm.LawKit.callS X127 hx (y := (⟨"com/example/coppice/coppice/tree/ByteString", "of", "([B)Lcom/example/coppice/coppice/tree/ByteString;"⟩ : MethodName)) hown (mvT hZ (hw _ (List.mem_of_getElem? (i := 5) rfl))) (mvT hZ (hw _ (List.mem_of_getElem? (i := 6) rfl))) (mvT hZ (hw _ (List.mem_of_getElem? (i := 7) rfl))) (mvT hZ (hw _ (List.mem_of_getElem? (i := 8) rfl))) (by decide) (backOf (W := 0) (rm_of1 l Z aT hw [] ob_127 kk_127 (x1.toInt8.toInt32) T127.heap n0 Z127 q127_1 q127_2) hZ (hw _ (List.mem_of_getElem? (i := 8) rfl)) (hw _ (List.mem_of_getElem? (i := 7) rfl)) (by decide) (by decide)) (g := (mkF m 17 #[.val (.int x0), .val (.int x1), .val (.int x2), .val (.int x3), .val (.int (1 : Int32)), .val (.ref ob_127), .unset] [(.ref ob_127)])) rfl (by rw [hml]; rfl) (argsL := [(.ref ob_127)]) (rest := []) (lenOf pd2 rfl) rfl (by show 2 * 0 + _ ≤ _; exact Nat.le_of_eq rfl) (hb hby at_17) (fun _ _ => ⟨rfl, rfl, (by decide : 1 + 2 ≤ _), (by decide : 1 + 2 ≤ _)⟩)
    dsimp only [Pt.U, Pt.locs, Pt.cells, Pt.slots] at X129 l129 y129 z129 st129 hQ129
    subst l129 y129 z129
    obtain ⟨ob_129, oc_129, rfl, N129q, K129, q129_0, q129_1, q129_2, q129_3, q129_4, q129_5⟩ := hQ129
    have N129 := Fr.app N127 N129q
    have Z129 : n0 ≤ T129.heap.size := Nat.le_trans Z127 K129.1
    have ne130 : ob_127 ≠ ob_129 := Nat.ne_of_lt (Nat.lt_of_lt_of_le (q127_1).lt q129_0)
    have ge131 : n0 ≤ ob_129 := Nat.le_trans Z127 q129_0
    have ne132 : ob_127 ≠ oc_129 := Nat.ne_of_lt (Nat.lt_of_lt_of_le (q127_1).lt q129_3)
    have ge133 : n0 ≤ oc_129 := Nat.le_trans Z127 q129_3
    refine own_go st129 ?_
    show own_Got p e below _ T129 (mkF m 20 #[.val (.int x0), .val (.int x1), .val (.int x2), .val (.int x3), .val (.int (1 : Int32)), .val (.ref ob_127), .unset] [(.ref ob_129)])
    refine g_astore X129 hx hby #[.val (.int x0), .val (.int x1), .val (.int x2), .val (.int x3), .val (.int (1 : Int32)), .val (.ref ob_127), .val (.ref ob_129)] at_20 rfl rfl (rfl : 20 + 2 = 22) ?_
    refine g_aload X129 hx hby at_22 rfl rfl (rfl : 22 + 2 = 24) ?_
    obtain ⟨cq134, kq134, q134a, q134b, q134c⟩ := isOf hZ rfl q129_1
    obtain ⟨_, _, ⟨T134, L134, k134, n134⟩, -, X134, ⟨Lc134, hQ134, l134, y134, z134⟩, st134⟩ := X129.virtualBack hx (y := (⟨"com/example/coppice/coppice/tree/ByteString", "size", "()I"⟩ : MethodName)) (z := (⟨"com/example/coppice/coppice/tree/ByteString", "size", "()I"⟩ : MethodName)) hown (mvT hZ (hw _ (List.mem_of_getElem? (i := 28) rfl))) (mvT hZ (hw _ (List.mem_of_getElem? (i := 29) rfl))) (notFace_of_selects (args := #[]) (mvT hZ (hw _ (List.mem_of_getElem? (i := 31) rfl)))) (mvT hZ (hw _ (List.mem_of_getElem? (i := 31) rfl))) (mvT hZ (hw _ (List.mem_of_getElem? (i := 30) rfl))) (by decide) (backOf (W := 0) (rm_siz l Z aT hw [] ob_129 oc_129 kk_127 (1 : Int32) [(.int (x1.toInt8.toInt32))] T129.heap n0 Z129 q129_2 q129_5) hZ (hw _ (List.mem_of_getElem? (i := 32) rfl)) (hw _ (List.mem_of_getElem? (i := 7) rfl)) (by decide) (by decide)) q134a q134c (g := (mkF m 24 #[.val (.int x0), .val (.int x1), .val (.int x2), .val (.int x3), .val (.int (1 : Int32)), .val (.ref ob_127), .val (.ref ob_129)] [(.ref ob_129)])) rfl (by rw [hml]; rfl) (Steps.refl _) (argsL := []) (rest := []) (lenOf pd3 rfl) rfl (by show 2 * 0 + _ ≤ _; exact Nat.le_of_eq rfl) (hb hby at_24) (fun _ _ => ⟨rfl, rfl, (by decide : 3 + 0 ≤ _), (by decide : 3 + 0 ≤ _)⟩)
    dsimp only [Pt.U, Pt.locs, Pt.cells, Pt.slots] at X134 l134 y134 z134 st134 hQ134
    subst l134 y134 z134
    obtain ⟨rfl, N134q, eq134⟩ := hQ134
    have N134 := Fr.app N129 N134q
    refine own_tr st134 ?_
    show own_Got p e below _ T134 (mkF m 27 #[.val (.int x0), .val (.int x1), .val (.int x2), .val (.int x3), .val (.int (1 : Int32)), .val (.ref ob_127), .val (.ref ob_129)] [(.int (1 : Int32))])
    refine g_iload X134 hx hby at_27 rfl (rfl : 27 + 2 = 29) ?_
    refine g_icT X134 hx hby at_29 (teq (by decide : (1 : Int32) = (1 : Int32))).1 (by decide) (pc' := 34) (by decide) ?_
    refine g_aload X134 hx hby at_34 rfl rfl (rfl : 34 + 2 = 36) ?_
    have f136 : Exa Z T129.heap ob_127 "[B" := (Exa.keep q127_1 K129)
    obtain ⟨cq135, kq135, q135a, q135b, q135c⟩ := isOf hZ eq134 q129_1
    obtain ⟨_, _, ⟨T135, L135, k135, n135⟩, -, X135, ⟨Lc135, hQ135, l135, y135, z135⟩, st135⟩ := X134.virtualBack hx (y := (⟨"com/example/coppice/coppice/tree/ByteString", "toByteArray", "()[B"⟩ : MethodName)) (z := (⟨"com/example/coppice/coppice/tree/ByteString", "toByteArray", "()[B"⟩ : MethodName)) hown (mvT hZ (hw _ (List.mem_of_getElem? (i := 33) rfl))) (mvT hZ (hw _ (List.mem_of_getElem? (i := 34) rfl))) (notFace_of_selects (args := #[]) (mvT hZ (hw _ (List.mem_of_getElem? (i := 36) rfl)))) (mvT hZ (hw _ (List.mem_of_getElem? (i := 36) rfl))) (mvT hZ (hw _ (List.mem_of_getElem? (i := 35) rfl))) (by decide) (backOf (W := 0) (rm_ta1 l Z aT hw [] ob_129 oc_129 kk_127 (x1.toInt8.toInt32) T129.heap n0 Z129 q129_2 q129_4 q129_5) hZ (hw _ (List.mem_of_getElem? (i := 37) rfl)) (hw _ (List.mem_of_getElem? (i := 7) rfl)) (by decide) (by decide)) q135a q135c (g := (mkF m 36 #[.val (.int x0), .val (.int x1), .val (.int x2), .val (.int x3), .val (.int (1 : Int32)), .val (.ref ob_127), .val (.ref ob_129)] [(.ref ob_129)])) rfl (by rw [hml]; rfl) (Steps.refl _) (argsL := []) (rest := []) (lenOf pd4 rfl) rfl (by show 2 * 0 + _ ≤ _; exact Nat.le_of_eq rfl) (hb hby at_36) (fun _ _ => ⟨rfl, eq134, (by decide : 3 + 1 ≤ _), (by decide : 3 + 1 ≤ _)⟩)
    dsimp only [Pt.U, Pt.locs, Pt.cells, Pt.slots] at X135 l135 y135 z135 st135 hQ135
    subst l135 y135 z135
    obtain ⟨oc_135, rfl, N135q, K135, q135_0, q135_1, q135_2⟩ := hQ135
    have N135 := Fr.app N134 N135q
    have Z135 : n0 ≤ T135.heap.size := Nat.le_trans Z129 K135.1
    have ne137 : ob_127 ≠ oc_135 := Nat.ne_of_lt (Nat.lt_of_lt_of_le (f136).lt q135_0)
    have ne138 : ob_129 ≠ oc_135 := Nat.ne_of_lt (Nat.lt_of_lt_of_le (q129_1).lt q135_0)
    have ne139 : oc_129 ≠ oc_135 := Nat.ne_of_lt (Nat.lt_of_lt_of_le (q129_4).lt q135_0)
    have ge140 : n0 ≤ oc_135 := Nat.le_trans Z129 q135_0
    refine own_tr st135 ?_
    show own_Got p e below _ T135 (mkF m 39 #[.val (.int x0), .val (.int x1), .val (.int x2), .val (.int x3), .val (.int (1 : Int32)), .val (.ref ob_127), .val (.ref ob_129)] [(.ref oc_135)])
    refine g_iload X135 hx hby at_39 rfl (rfl : 39 + 2 = 41) ?_
    refine g_iloadN X135 hx hby at_41 rfl (rfl : 41 + 1 = 42) ?_
    refine g_iloadN X135 hx hby at_42 rfl (rfl : 42 + 1 = 43) ?_
    refine g_iloadN X135 hx hby at_43 rfl (rfl : 43 + 1 = 44) ?_
    obtain ⟨_, _, ⟨T141, L141, k141, n141⟩, -, X141, ⟨Lc141, hQ141, l141, y141, z141⟩, st141⟩ := Jvm.LawKit.callS X135 hx (y := (⟨"com/example/coppice/coppice/tree/ByteStringOfPinLaw", "holds", "([BIIII)Z"⟩ : MethodName)) hown (mvT hZ (hw _ (List.mem_of_getElem? (i := 38) rfl))) (mvT hZ (hw _ (List.mem_of_getElem? (i := 39) rfl))) (mvT hZ (hw _ (List.mem_of_getElem? (i := 2) rfl))) (mvT hZ (hw _ (List.mem_of_getElem? (i := 40) rfl))) (by decide) (backOf (W := 0) (rm_hd1 l Z aT hw [] oc_135 x1 x2 x3 kk_127 T135.heap n0 Z135 q135_2) hZ (hw _ (List.mem_of_getElem? (i := 40) rfl)) (hw _ (List.mem_of_getElem? (i := 2) rfl)) (by decide) (by decide)) (g := (mkF m 44 #[.val (.int x0), .val (.int x1), .val (.int x2), .val (.int x3), .val (.int (1 : Int32)), .val (.ref ob_127), .val (.ref ob_129)] [(.int x3), (.int x2), (.int x1), (.int (1 : Int32)), (.ref oc_135)])) rfl (by rw [hml]; rfl) (argsL := [(.ref oc_135), (.int (1 : Int32)), (.int x1), (.int x2), (.int x3)]) (rest := []) (lenOf pd5 rfl) rfl (by show 2 * 0 + _ ≤ _; exact Nat.le_of_eq rfl) (hb hby at_44) (fun _ _ => ⟨rfl, rfl, (by decide : 4 + 0 ≤ _), (by decide : 4 + 0 ≤ _)⟩)
    dsimp only [Pt.U, Pt.locs, Pt.cells, Pt.slots] at X141 l141 y141 z141 st141 hQ141
    subst l141 y141 z141
    obtain ⟨rfl, N141q, eq141⟩ := hQ141
    have N141 := Fr.app N135 N141q
    refine own_go st141 ?_
    show own_Got p e below _ T141 (mkF m 47 #[.val (.int x0), .val (.int x1), .val (.int x2), .val (.int x3), .val (.int (1 : Int32)), .val (.ref ob_127), .val (.ref ob_129)] [(.int (1 : Int32))])
    refine g_ifT X141 hx hby at_47 ((if0 _ _).trans (feq (by decide : ¬ ((1 : Int32) = (0 : Int32)))).2) (by decide) (pc' := 52) (by decide) ?_
    refine g_iload X141 hx hby at_52 rfl (rfl : 52 + 2 = 54) ?_
    refine g_iconst X141 hx hby (1 : Int32) at_54 (by decide) (rfl : 54 + 1 = 55) ?_
    refine g_icF X141 hx hby at_55 (flt (by decide : ¬ ((1 : Int32) < (1 : Int32)))).1 (rfl : 55 + 3 = 58) ?_
    refine g_aload X141 hx hby at_58 rfl rfl (rfl : 58 + 2 = 60) ?_
    refine g_iconst X141 hx hby (0 : Int32) at_60 (by decide) (rfl : 60 + 1 = 61) ?_
    refine g_aload X141 hx hby at_61 rfl rfl (rfl : 61 + 2 = 63) ?_
    refine g_iconst X141 hx hby (0 : Int32) at_63 (by decide) (rfl : 63 + 1 = 64) ?_
    have f142 : Arv Z T135.heap ob_127 kk_127 .byte (1 : Int32) [(.int (x1.toInt8.toInt32))] (.int (0 : Int32)) := (Arv.keep (Arv.keep q127_2 K129 nin0) K135 nin0)
    refine g_baload X141 hx hby hZ eq141 (v := (.int (x1.toInt8.toInt32))) f142 ⟨by decide, by decide⟩ rfl at_64 (rfl : 64 + 1 = 65) ?_
    refine g_iconst X141 hx hby (-1 : Int32) at_65 (by decide) (rfl : 65 + 1 = 66) ?_
    refine g_ixor X141 hx hby at_66 (rfl : 66 + 1 = 67) ?_
    refine g_i2b X141 hx hby at_67 (rfl : 67 + 1 = 68) ?_
    obtain ⟨T143, h143, X143, e143, W143, V143, st143⟩ := a_bastore X141 hx hby hZ eq141 (ls := #[.val (.int x0), .val (.int x1), .val (.int x2), .val (.int x3), .val (.int (1 : Int32)), .val (.ref ob_127), .val (.ref ob_129)]) (st := []) (j := (0 : Int32)) (((x1.toInt8.toInt32) ^^^ (-1 : Int32)).toInt8.toInt32) 0 f142 ⟨by decide, by decide⟩ (by decide) (Nat.le_of_ble_eq_true rfl) at_68
    have Z143 : n0 ≤ h143.size := Nat.le_trans Z135 (Keep.of_wr W143).1
    have N143 := Fr.snoc X143 N141 ge128
    have V143' : Arv Z h143 ob_127 kk_127 .byte (1 : Int32) [(.int (((x1.toInt8.toInt32) ^^^ (-1 : Int32)).toInt8.toInt32))] (.int (0 : Int32)) := by have q := V143; rw [own_nb] at q; exact q
    refine own_go st143 ?_
    show own_Got p e below _ T143 (mkF m 69 #[.val (.int x0), .val (.int x1), .val (.int x2), .val (.int x3), .val (.int (1 : Int32)), .val (.ref ob_127), .val (.ref ob_129)] [])
    refine g_iload X143 hx hby at_69 rfl (rfl : 69 + 2 = 71) ?_
    refine g_iconst X143 hx hby (2 : Int32) at_71 (by decide) (rfl : 71 + 1 = 72) ?_
    refine g_icT X143 hx hby at_72 (tlt (by decide : (1 : Int32) < (2 : Int32))).1 (by decide) (pc' := 86) (by decide) ?_
    refine g_iload X143 hx hby at_86 rfl (rfl : 86 + 2 = 88) ?_
    refine g_iconst X143 hx hby (3 : Int32) at_88 (by decide) (rfl : 88 + 1 = 89) ?_
    refine g_icT X143 hx hby at_89 (tlt (by decide : (1 : Int32) < (3 : Int32))).1 (by decide) (pc' := 103) (by decide) ?_
    refine g_aload X143 hx hby at_103 rfl rfl (rfl : 103 + 2 = 105) ?_
    have f145 : Fld Z h143 ob_129 "com/example/coppice/coppice/tree/ByteString" "_bytes" "[B" (.ref oc_129) := (Fld.other W143 (Fld.keep q129_2 K135 nin0) (Or.inl (Ne.symm ne130)))
    have f146 : Arv Z h143 oc_129 kk_127 .byte (1 : Int32) [(.int (x1.toInt8.toInt32))] (.int (0 : Int32)) := (Arv.other (Arv.keep q129_5 K135 nin0) W143 (Ne.symm ne132))
    have f147 : Exa Z h143 ob_129 "com/example/coppice/coppice/tree/ByteString" := (Exa.wr W143 (Exa.keep q129_1 K135))
    obtain ⟨cq144, kq144, q144a, q144b, q144c⟩ := isOf hZ e143 f147
    obtain ⟨_, _, ⟨T144, L144, k144, n144⟩, -, X144, ⟨Lc144, hQ144, l144, y144, z144⟩, st144⟩ := X143.virtualBack hx (y := (⟨"com/example/coppice/coppice/tree/ByteString", "size", "()I"⟩ : MethodName)) (z := (⟨"com/example/coppice/coppice/tree/ByteString", "size", "()I"⟩ : MethodName)) hown (mvT hZ (hw _ (List.mem_of_getElem? (i := 28) rfl))) (mvT hZ (hw _ (List.mem_of_getElem? (i := 29) rfl))) (notFace_of_selects (args := #[]) (mvT hZ (hw _ (List.mem_of_getElem? (i := 31) rfl)))) (mvT hZ (hw _ (List.mem_of_getElem? (i := 31) rfl))) (mvT hZ (hw _ (List.mem_of_getElem? (i := 30) rfl))) (by decide) (backOf (W := 0) (rm_siz l Z aT hw [] ob_129 oc_129 kk_127 (1 : Int32) [(.int (x1.toInt8.toInt32))] h143 n0 Z143 f145 f146) hZ (hw _ (List.mem_of_getElem? (i := 32) rfl)) (hw _ (List.mem_of_getElem? (i := 7) rfl)) (by decide) (by decide)) q144a q144c (g := (mkF m 105 #[.val (.int x0), .val (.int x1), .val (.int x2), .val (.int x3), .val (.int (1 : Int32)), .val (.ref ob_127), .val (.ref ob_129)] [(.ref ob_129)])) rfl (by rw [hml]; rfl) (Steps.refl _) (argsL := []) (rest := []) (lenOf pd3 rfl) rfl (by show 2 * 0 + _ ≤ _; exact Nat.le_of_eq rfl) (hb hby at_105) (fun _ _ => ⟨rfl, e143, (by decide : 4 + 0 ≤ _), (by decide : 4 + 0 ≤ _)⟩)
    dsimp only [Pt.U, Pt.locs, Pt.cells, Pt.slots] at X144 l144 y144 z144 st144 hQ144
    subst l144 y144 z144
    obtain ⟨rfl, N144q, eq144⟩ := hQ144
    have N144 := Fr.app N143 N144q
    refine own_tr st144 ?_
    show own_Got p e below _ T144 (mkF m 108 #[.val (.int x0), .val (.int x1), .val (.int x2), .val (.int x3), .val (.int (1 : Int32)), .val (.ref ob_127), .val (.ref ob_129)] [(.int (1 : Int32))])
    refine g_iload X144 hx hby at_108 rfl (rfl : 108 + 2 = 110) ?_
    refine g_icT X144 hx hby at_110 (teq (by decide : (1 : Int32) = (1 : Int32))).1 (by decide) (pc' := 115) (by decide) ?_
    refine g_aload X144 hx hby at_115 rfl rfl (rfl : 115 + 2 = 117) ?_
    have f149 : Exa Z h143 oc_129 "[B" := (Exa.wr W143 (Exa.keep q129_4 K135))
    have f150 : Exa Z h143 ob_127 "[B" := (Exa.wr W143 (Exa.keep f136 K135))
    have f151 : Exa Z h143 oc_135 "[B" := (Exa.wr W143 q135_1)
    obtain ⟨cq148, kq148, q148a, q148b, q148c⟩ := isOf hZ eq144 f147
    obtain ⟨_, _, ⟨T148, L148, k148, n148⟩, -, X148, ⟨Lc148, hQ148, l148, y148, z148⟩, st148⟩ := X144.virtualBack hx (y := (⟨"com/example/coppice/coppice/tree/ByteString", "toByteArray", "()[B"⟩ : MethodName)) (z := (⟨"com/example/coppice/coppice/tree/ByteString", "toByteArray", "()[B"⟩ : MethodName)) hown (mvT hZ (hw _ (List.mem_of_getElem? (i := 33) rfl))) (mvT hZ (hw _ (List.mem_of_getElem? (i := 34) rfl))) (notFace_of_selects (args := #[]) (mvT hZ (hw _ (List.mem_of_getElem? (i := 36) rfl)))) (mvT hZ (hw _ (List.mem_of_getElem? (i := 36) rfl))) (mvT hZ (hw _ (List.mem_of_getElem? (i := 35) rfl))) (by decide) (backOf (W := 0) (rm_ta1 l Z aT hw [] ob_129 oc_129 kk_127 (x1.toInt8.toInt32) h143 n0 Z143 f145 f149 f146) hZ (hw _ (List.mem_of_getElem? (i := 37) rfl)) (hw _ (List.mem_of_getElem? (i := 7) rfl)) (by decide) (by decide)) q148a q148c (g := (mkF m 117 #[.val (.int x0), .val (.int x1), .val (.int x2), .val (.int x3), .val (.int (1 : Int32)), .val (.ref ob_127), .val (.ref ob_129)] [(.ref ob_129)])) rfl (by rw [hml]; rfl) (Steps.refl _) (argsL := []) (rest := []) (lenOf pd4 rfl) rfl (by show 2 * 0 + _ ≤ _; exact Nat.le_of_eq rfl) (hb hby at_117) (fun _ _ => ⟨rfl, eq144, (by decide : 4 + 1 ≤ _), (by decide : 4 + 1 ≤ _)⟩)
    dsimp only [Pt.U, Pt.locs, Pt.cells, Pt.slots] at X148 l148 y148 z148 st148 hQ148
    subst l148 y148 z148
    obtain ⟨oc_148, rfl, N148q, K148, q148_0, q148_1, q148_2⟩ := hQ148
    have N148 := Fr.app N144 N148q
    have Z148 : n0 ≤ T148.heap.size := Nat.le_trans Z143 K148.1
    have ne152 : ob_127 ≠ oc_148 := Nat.ne_of_lt (Nat.lt_of_lt_of_le (f150).lt q148_0)
    have ne153 : ob_129 ≠ oc_148 := Nat.ne_of_lt (Nat.lt_of_lt_of_le (f147).lt q148_0)
    have ne154 : oc_129 ≠ oc_148 := Nat.ne_of_lt (Nat.lt_of_lt_of_le (f149).lt q148_0)
    have ne155 : oc_135 ≠ oc_148 := Nat.ne_of_lt (Nat.lt_of_lt_of_le (f151).lt q148_0)
    have ge156 : n0 ≤ oc_148 := Nat.le_trans Z143 q148_0
    refine own_tr st148 ?_
    show own_Got p e below _ T148 (mkF m 120 #[.val (.int x0), .val (.int x1), .val (.int x2), .val (.int x3), .val (.int (1 : Int32)), .val (.ref ob_127), .val (.ref ob_129)] [(.ref oc_148)])
    refine g_iload X148 hx hby at_120 rfl (rfl : 120 + 2 = 122) ?_
    refine g_iloadN X148 hx hby at_122 rfl (rfl : 122 + 1 = 123) ?_
    refine g_iloadN X148 hx hby at_123 rfl (rfl : 123 + 1 = 124) ?_
    refine g_iloadN X148 hx hby at_124 rfl (rfl : 124 + 1 = 125) ?_
    obtain ⟨_, _, ⟨T157, L157, k157, n157⟩, -, X157, ⟨Lc157, hQ157, l157, y157, z157⟩, st157⟩ := Jvm.LawKit.callS X148 hx (y := (⟨"com/example/coppice/coppice/tree/ByteStringOfPinLaw", "holds", "([BIIII)Z"⟩ : MethodName)) hown (mvT hZ (hw _ (List.mem_of_getElem? (i := 38) rfl))) (mvT hZ (hw _ (List.mem_of_getElem? (i := 39) rfl))) (mvT hZ (hw _ (List.mem_of_getElem? (i := 2) rfl))) (mvT hZ (hw _ (List.mem_of_getElem? (i := 40) rfl))) (by decide) (backOf (W := 0) (rm_hd1 l Z aT hw [] oc_148 x1 x2 x3 kk_127 T148.heap n0 Z148 q148_2) hZ (hw _ (List.mem_of_getElem? (i := 40) rfl)) (hw _ (List.mem_of_getElem? (i := 2) rfl)) (by decide) (by decide)) (g := (mkF m 125 #[.val (.int x0), .val (.int x1), .val (.int x2), .val (.int x3), .val (.int (1 : Int32)), .val (.ref ob_127), .val (.ref ob_129)] [(.int x3), (.int x2), (.int x1), (.int (1 : Int32)), (.ref oc_148)])) rfl (by rw [hml]; rfl) (argsL := [(.ref oc_148), (.int (1 : Int32)), (.int x1), (.int x2), (.int x3)]) (rest := []) (lenOf pd5 rfl) rfl (by show 2 * 0 + _ ≤ _; exact Nat.le_of_eq rfl) (hb hby at_125) (fun _ _ => ⟨rfl, rfl, (by decide : 5 + 0 ≤ _), (by decide : 5 + 0 ≤ _)⟩)
    dsimp only [Pt.U, Pt.locs, Pt.cells, Pt.slots] at X157 l157 y157 z157 st157 hQ157
    subst l157 y157 z157
    obtain ⟨rfl, N157q, eq157⟩ := hQ157
    have N157 := Fr.app N148 N157q
    refine own_go st157 ?_
    show own_Got p e below _ T157 (mkF m 128 #[.val (.int x0), .val (.int x1), .val (.int x2), .val (.int x3), .val (.int (1 : Int32)), .val (.ref ob_127), .val (.ref ob_129)] [(.int (1 : Int32))])
    refine own_retN X157 hx hby hlk (t := .boolean) hrt (by simp) at_128 (by decide) (by decide) ?_
    show Q_law Z x0 x1 x2 x3 h0 n0 _ T157.heap _
    exact ⟨rfl, N157⟩
  · rw [hk98]
    refine g_iload X0 hx hby at_5 rfl (rfl : 5 + 2 = 7) ?_
    refine g_iloadN X0 hx hby at_7 rfl (rfl : 7 + 1 = 8) ?_
    refine g_iloadN X0 hx hby at_8 rfl (rfl : 8 + 1 = 9) ?_
    refine g_iloadN X0 hx hby at_9 rfl (rfl : 9 + 1 = 10) ?_
    obtain ⟨_, _, ⟨T158, L158, k158, n158⟩, -, X158, ⟨Lc158, hQ158, l158, y158, z158⟩, st158⟩ := Jvm.LawKit.callS X0 hx (y := (⟨"com/example/coppice/coppice/tree/ByteStringOfPinLaw", "make", "(IIII)[B"⟩ : MethodName)) hown (mvT hZ (hw _ (List.mem_of_getElem? (i := 0) rfl))) (mvT hZ (hw _ (List.mem_of_getElem? (i := 1) rfl))) (mvT hZ (hw _ (List.mem_of_getElem? (i := 2) rfl))) (mvT hZ (hw _ (List.mem_of_getElem? (i := 3) rfl))) (by decide) (backOf (W := 0) (rm_mk2 l Z aT hw [] x1 x2 x3 h0 n0 Z0) hZ (hw _ (List.mem_of_getElem? (i := 3) rfl)) (hw _ (List.mem_of_getElem? (i := 2) rfl)) (by decide) (by decide)) (g := (mkF m 10 #[.val (.int x0), .val (.int x1), .val (.int x2), .val (.int x3), .val (.int (2 : Int32)), .unset, .unset] [(.int x3), (.int x2), (.int x1), (.int (2 : Int32))])) rfl (by rw [hml]; rfl) (argsL := [(.int (2 : Int32)), (.int x1), (.int x2), (.int x3)]) (rest := []) (lenOf pd1 rfl) rfl (by show 2 * 0 + _ ≤ _; exact Nat.le_of_eq rfl) (hb hby at_10) (fun _ _ => ⟨rfl, e0, (by decide : 0 + 1 ≤ _), (by decide : 0 + 2 ≤ _)⟩)
    dsimp only [Pt.U, Pt.locs, Pt.cells, Pt.slots] at X158 l158 y158 z158 st158 hQ158
    subst l158 y158 z158
    obtain ⟨ob_158, kk_158, rfl, N158q, K158, q158_0, q158_1, q158_2⟩ := hQ158
    have N158 := Fr.app N0 N158q
    have Z158 : n0 ≤ T158.heap.size := Nat.le_trans Z0 K158.1
    have ge159 : n0 ≤ ob_158 := Nat.le_trans Z0 q158_0
    refine own_go st158 ?_
    show own_Got p e below _ T158 (mkF m 13 #[.val (.int x0), .val (.int x1), .val (.int x2), .val (.int x3), .val (.int (2 : Int32)), .unset, .unset] [(.ref ob_158)])
    refine g_astore X158 hx hby #[.val (.int x0), .val (.int x1), .val (.int x2), .val (.int x3), .val (.int (2 : Int32)), .val (.ref ob_158), .unset] at_13 rfl rfl (rfl : 13 + 2 = 15) ?_
    refine g_aload X158 hx hby at_15 rfl rfl (rfl : 15 + 2 = 17) ?_
    obtain ⟨_, _, ⟨T160, L160, k160, n160⟩, -, X160, ⟨Lc160, hQ160, l160, y160, z160⟩, st160⟩ := Jvm.LawKit.callS X158 hx (y := (⟨"com/example/coppice/coppice/tree/ByteString", "of", "([B)Lcom/example/coppice/coppice/tree/ByteString;"⟩ : MethodName)) hown (mvT hZ (hw _ (List.mem_of_getElem? (i := 5) rfl))) (mvT hZ (hw _ (List.mem_of_getElem? (i := 6) rfl))) (mvT hZ (hw _ (List.mem_of_getElem? (i := 7) rfl))) (mvT hZ (hw _ (List.mem_of_getElem? (i := 8) rfl))) (by decide) (backOf (W := 0) (rm_of2 l Z aT hw [] ob_158 kk_158 (x1.toInt8.toInt32) (x2.toInt8.toInt32) T158.heap n0 Z158 q158_1 q158_2) hZ (hw _ (List.mem_of_getElem? (i := 8) rfl)) (hw _ (List.mem_of_getElem? (i := 7) rfl)) (by decide) (by decide)) (g := (mkF m 17 #[.val (.int x0), .val (.int x1), .val (.int x2), .val (.int x3), .val (.int (2 : Int32)), .val (.ref ob_158), .unset] [(.ref ob_158)])) rfl (by rw [hml]; rfl) (argsL := [(.ref ob_158)]) (rest := []) (lenOf pd2 rfl) rfl (by show 2 * 0 + _ ≤ _; exact Nat.le_of_eq rfl) (hb hby at_17) (fun _ _ => ⟨rfl, rfl, (by decide : 1 + 2 ≤ _), (by decide : 2 + 3 ≤ _)⟩)
    dsimp only [Pt.U, Pt.locs, Pt.cells, Pt.slots] at X160 l160 y160 z160 st160 hQ160
    subst l160 y160 z160
    obtain ⟨ob_160, oc_160, rfl, N160q, K160, q160_0, q160_1, q160_2, q160_3, q160_4, q160_5⟩ := hQ160
    have N160 := Fr.app N158 N160q
    have Z160 : n0 ≤ T160.heap.size := Nat.le_trans Z158 K160.1
    have ne161 : ob_158 ≠ ob_160 := Nat.ne_of_lt (Nat.lt_of_lt_of_le (q158_1).lt q160_0)
    have ge162 : n0 ≤ ob_160 := Nat.le_trans Z158 q160_0
    have ne163 : ob_158 ≠ oc_160 := Nat.ne_of_lt (Nat.lt_of_lt_of_le (q158_1).lt q160_3)
    have ge164 : n0 ≤ oc_160 := Nat.le_trans Z158 q160_3
    refine own_go st160 ?_
    show own_Got p e below _ T160 (mkF m 20 #[.val (.int x0), .val (.int x1), .val (.int x2), .val (.int x3), .val (.int (2 : Int32)), .val (.ref ob_158), .unset] [(.ref ob_160)])
    refine g_astore X160 hx hby #[.val (.int x0), .val (.int x1), .val (.int x2), .val (.int x3), .val (.int (2 : Int32)), .val (.ref ob_158), .val (.ref ob_160)] at_20 rfl rfl (rfl : 20 + 2 = 22) ?_
    refine g_aload X160 hx hby at_22 rfl rfl (rfl : 22 + 2 = 24) ?_
    obtain ⟨cq165, kq165, q165a, q165b, q165c⟩ := isOf hZ rfl q160_1
    obtain ⟨_, _, ⟨T165, L165, k165, n165⟩, -, X165, ⟨Lc165, hQ165, l165, y165, z165⟩, st165⟩ := X160.virtualBack hx (y := (⟨"com/example/coppice/coppice/tree/ByteString", "size", "()I"⟩ : MethodName)) (z := (⟨"com/example/coppice/coppice/tree/ByteString", "size", "()I"⟩ : MethodName)) hown (mvT hZ (hw _ (List.mem_of_getElem? (i := 28) rfl))) (mvT hZ (hw _ (List.mem_of_getElem? (i := 29) rfl))) (notFace_of_selects (args := #[]) (mvT hZ (hw _ (List.mem_of_getElem? (i := 31) rfl)))) (mvT hZ (hw _ (List.mem_of_getElem? (i := 31) rfl))) (mvT hZ (hw _ (List.mem_of_getElem? (i := 30) rfl))) (by decide) (backOf (W := 0) (rm_siz l Z aT hw [] ob_160 oc_160 kk_158 (2 : Int32) [(.int (x1.toInt8.toInt32)), (.int (x2.toInt8.toInt32))] T160.heap n0 Z160 q160_2 q160_5) hZ (hw _ (List.mem_of_getElem? (i := 32) rfl)) (hw _ (List.mem_of_getElem? (i := 7) rfl)) (by decide) (by decide)) q165a q165c (g := (mkF m 24 #[.val (.int x0), .val (.int x1), .val (.int x2), .val (.int x3), .val (.int (2 : Int32)), .val (.ref ob_158), .val (.ref ob_160)] [(.ref ob_160)])) rfl (by rw [hml]; rfl) (Steps.refl _) (argsL := []) (rest := []) (lenOf pd3 rfl) rfl (by show 2 * 0 + _ ≤ _; exact Nat.le_of_eq rfl) (hb hby at_24) (fun _ _ => ⟨rfl, rfl, (by decide : 3 + 0 ≤ _), (by decide : 5 + 0 ≤ _)⟩)
    dsimp only [Pt.U, Pt.locs, Pt.cells, Pt.slots] at X165 l165 y165 z165 st165 hQ165
    subst l165 y165 z165
    obtain ⟨rfl, N165q, eq165⟩ := hQ165
    have N165 := Fr.app N160 N165q
    refine own_tr st165 ?_
    show own_Got p e below _ T165 (mkF m 27 #[.val (.int x0), .val (.int x1), .val (.int x2), .val (.int x3), .val (.int (2 : Int32)), .val (.ref ob_158), .val (.ref ob_160)] [(.int (2 : Int32))])
    refine g_iload X165 hx hby at_27 rfl (rfl : 27 + 2 = 29) ?_
    refine g_icT X165 hx hby at_29 (teq (by decide : (2 : Int32) = (2 : Int32))).1 (by decide) (pc' := 34) (by decide) ?_
    refine g_aload X165 hx hby at_34 rfl rfl (rfl : 34 + 2 = 36) ?_
    have f167 : Exa Z T160.heap ob_158 "[B" := (Exa.keep q158_1 K160)
    obtain ⟨cq166, kq166, q166a, q166b, q166c⟩ := isOf hZ eq165 q160_1
    obtain ⟨_, _, ⟨T166, L166, k166, n166⟩, -, X166, ⟨Lc166, hQ166, l166, y166, z166⟩, st166⟩ := X165.virtualBack hx (y := (⟨"com/example/coppice/coppice/tree/ByteString", "toByteArray", "()[B"⟩ : MethodName)) (z := (⟨"com/example/coppice/coppice/tree/ByteString", "toByteArray", "()[B"⟩ : MethodName)) hown (mvT hZ (hw _ (List.mem_of_getElem? (i := 33) rfl))) (mvT hZ (hw _ (List.mem_of_getElem? (i := 34) rfl))) (notFace_of_selects (args := #[]) (mvT hZ (hw _ (List.mem_of_getElem? (i := 36) rfl)))) (mvT hZ (hw _ (List.mem_of_getElem? (i := 36) rfl))) (mvT hZ (hw _ (List.mem_of_getElem? (i := 35) rfl))) (by decide) (backOf (W := 0) (rm_ta2 l Z aT hw [] ob_160 oc_160 kk_158 (x1.toInt8.toInt32) (x2.toInt8.toInt32) T160.heap n0 Z160 q160_2 q160_4 q160_5) hZ (hw _ (List.mem_of_getElem? (i := 37) rfl)) (hw _ (List.mem_of_getElem? (i := 7) rfl)) (by decide) (by decide)) q166a q166c (g := (mkF m 36 #[.val (.int x0), .val (.int x1), .val (.int x2), .val (.int x3), .val (.int (2 : Int32)), .val (.ref ob_158), .val (.ref ob_160)] [(.ref ob_160)])) rfl (by rw [hml]; rfl) (Steps.refl _) (argsL := []) (rest := []) (lenOf pd4 rfl) rfl (by show 2 * 0 + _ ≤ _; exact Nat.le_of_eq rfl) (hb hby at_36) (fun _ _ => ⟨rfl, eq165, (by decide : 3 + 1 ≤ _), (by decide : 5 + 2 ≤ _)⟩)
    dsimp only [Pt.U, Pt.locs, Pt.cells, Pt.slots] at X166 l166 y166 z166 st166 hQ166
    subst l166 y166 z166
    obtain ⟨oc_166, rfl, N166q, K166, q166_0, q166_1, q166_2⟩ := hQ166
    have N166 := Fr.app N165 N166q
    have Z166 : n0 ≤ T166.heap.size := Nat.le_trans Z160 K166.1
    have ne168 : ob_158 ≠ oc_166 := Nat.ne_of_lt (Nat.lt_of_lt_of_le (f167).lt q166_0)
    have ne169 : ob_160 ≠ oc_166 := Nat.ne_of_lt (Nat.lt_of_lt_of_le (q160_1).lt q166_0)
    have ne170 : oc_160 ≠ oc_166 := Nat.ne_of_lt (Nat.lt_of_lt_of_le (q160_4).lt q166_0)
    have ge171 : n0 ≤ oc_166 := Nat.le_trans Z160 q166_0
    refine own_tr st166 ?_
    show own_Got p e below _ T166 (mkF m 39 #[.val (.int x0), .val (.int x1), .val (.int x2), .val (.int x3), .val (.int (2 : Int32)), .val (.ref ob_158), .val (.ref ob_160)] [(.ref oc_166)])
    refine g_iload X166 hx hby at_39 rfl (rfl : 39 + 2 = 41) ?_
    refine g_iloadN X166 hx hby at_41 rfl (rfl : 41 + 1 = 42) ?_
    refine g_iloadN X166 hx hby at_42 rfl (rfl : 42 + 1 = 43) ?_
    refine g_iloadN X166 hx hby at_43 rfl (rfl : 43 + 1 = 44) ?_
    obtain ⟨_, _, ⟨T172, L172, k172, n172⟩, -, X172, ⟨Lc172, hQ172, l172, y172, z172⟩, st172⟩ := Jvm.LawKit.callS X166 hx (y := (⟨"com/example/coppice/coppice/tree/ByteStringOfPinLaw", "holds", "([BIIII)Z"⟩ : MethodName)) hown (mvT hZ (hw _ (List.mem_of_getElem? (i := 38) rfl))) (mvT hZ (hw _ (List.mem_of_getElem? (i := 39) rfl))) (mvT hZ (hw _ (List.mem_of_getElem? (i := 2) rfl))) (mvT hZ (hw _ (List.mem_of_getElem? (i := 40) rfl))) (by decide) (backOf (W := 0) (rm_hd2 l Z aT hw [] oc_166 x1 x2 x3 kk_158 T166.heap n0 Z166 q166_2) hZ (hw _ (List.mem_of_getElem? (i := 40) rfl)) (hw _ (List.mem_of_getElem? (i := 2) rfl)) (by decide) (by decide)) (g := (mkF m 44 #[.val (.int x0), .val (.int x1), .val (.int x2), .val (.int x3), .val (.int (2 : Int32)), .val (.ref ob_158), .val (.ref ob_160)] [(.int x3), (.int x2), (.int x1), (.int (2 : Int32)), (.ref oc_166)])) rfl (by rw [hml]; rfl) (argsL := [(.ref oc_166), (.int (2 : Int32)), (.int x1), (.int x2), (.int x3)]) (rest := []) (lenOf pd5 rfl) rfl (by show 2 * 0 + _ ≤ _; exact Nat.le_of_eq rfl) (hb hby at_44) (fun _ _ => ⟨rfl, rfl, (by decide : 4 + 0 ≤ _), (by decide : 7 + 0 ≤ _)⟩)
    dsimp only [Pt.U, Pt.locs, Pt.cells, Pt.slots] at X172 l172 y172 z172 st172 hQ172
    subst l172 y172 z172
    obtain ⟨rfl, N172q, eq172⟩ := hQ172
    have N172 := Fr.app N166 N172q
    refine own_go st172 ?_
    show own_Got p e below _ T172 (mkF m 47 #[.val (.int x0), .val (.int x1), .val (.int x2), .val (.int x3), .val (.int (2 : Int32)), .val (.ref ob_158), .val (.ref ob_160)] [(.int (1 : Int32))])
    refine g_ifT X172 hx hby at_47 ((if0 _ _).trans (feq (by decide : ¬ ((1 : Int32) = (0 : Int32)))).2) (by decide) (pc' := 52) (by decide) ?_
    refine g_iload X172 hx hby at_52 rfl (rfl : 52 + 2 = 54) ?_
    refine g_iconst X172 hx hby (1 : Int32) at_54 (by decide) (rfl : 54 + 1 = 55) ?_
    refine g_icF X172 hx hby at_55 (flt (by decide : ¬ ((2 : Int32) < (1 : Int32)))).1 (rfl : 55 + 3 = 58) ?_
    refine g_aload X172 hx hby at_58 rfl rfl (rfl : 58 + 2 = 60) ?_
    refine g_iconst X172 hx hby (0 : Int32) at_60 (by decide) (rfl : 60 + 1 = 61) ?_
    refine g_aload X172 hx hby at_61 rfl rfl (rfl : 61 + 2 = 63) ?_
    refine g_iconst X172 hx hby (0 : Int32) at_63 (by decide) (rfl : 63 + 1 = 64) ?_
    have f173 : Arv Z T166.heap ob_158 kk_158 .byte (2 : Int32) [(.int (x1.toInt8.toInt32)), (.int (x2.toInt8.toInt32))] (.int (0 : Int32)) := (Arv.keep (Arv.keep q158_2 K160 nin0) K166 nin0)
    refine g_baload X172 hx hby hZ eq172 (v := (.int (x1.toInt8.toInt32))) f173 ⟨by decide, by decide⟩ rfl at_64 (rfl : 64 + 1 = 65) ?_
    refine g_iconst X172 hx hby (-1 : Int32) at_65 (by decide) (rfl : 65 + 1 = 66) ?_
    refine g_ixor X172 hx hby at_66 (rfl : 66 + 1 = 67) ?_
    refine g_i2b X172 hx hby at_67 (rfl : 67 + 1 = 68) ?_
    obtain ⟨T174, h174, X174, e174, W174, V174, st174⟩ := a_bastore X172 hx hby hZ eq172 (ls := #[.val (.int x0), .val (.int x1), .val (.int x2), .val (.int x3), .val (.int (2 : Int32)), .val (.ref ob_158), .val (.ref ob_160)]) (st := []) (j := (0 : Int32)) (((x1.toInt8.toInt32) ^^^ (-1 : Int32)).toInt8.toInt32) 0 f173 ⟨by decide, by decide⟩ (by decide) (Nat.le_of_ble_eq_true rfl) at_68
    have Z174 : n0 ≤ h174.size := Nat.le_trans Z166 (Keep.of_wr W174).1
    have N174 := Fr.snoc X174 N172 ge159
    have V174' : Arv Z h174 ob_158 kk_158 .byte (2 : Int32) [(.int (((x1.toInt8.toInt32) ^^^ (-1 : Int32)).toInt8.toInt32)), (.int (x2.toInt8.toInt32))] (.int (0 : Int32)) := by have q := V174; rw [own_nb] at q; exact q
    refine own_go st174 ?_
    show own_Got p e below _ T174 (mkF m 69 #[.val (.int x0), .val (.int x1), .val (.int x2), .val (.int x3), .val (.int (2 : Int32)), .val (.ref ob_158), .val (.ref ob_160)] [])
    refine g_iload X174 hx hby at_69 rfl (rfl : 69 + 2 = 71) ?_
    refine g_iconst X174 hx hby (2 : Int32) at_71 (by decide) (rfl : 71 + 1 = 72) ?_
    refine g_icF X174 hx hby at_72 (flt (by decide : ¬ ((2 : Int32) < (2 : Int32)))).1 (rfl : 72 + 3 = 75) ?_
    refine g_aload X174 hx hby at_75 rfl rfl (rfl : 75 + 2 = 77) ?_
    refine g_iconst X174 hx hby (1 : Int32) at_77 (by decide) (rfl : 77 + 1 = 78) ?_
    refine g_aload X174 hx hby at_78 rfl rfl (rfl : 78 + 2 = 80) ?_
    refine g_iconst X174 hx hby (1 : Int32) at_80 (by decide) (rfl : 80 + 1 = 81) ?_
    refine g_baload X174 hx hby hZ e174 (v := (.int (x2.toInt8.toInt32))) V174' ⟨by decide, by decide⟩ rfl at_81 (rfl : 81 + 1 = 82) ?_
    refine g_iconst X174 hx hby (-1 : Int32) at_82 (by decide) (rfl : 82 + 1 = 83) ?_
    refine g_ixor X174 hx hby at_83 (rfl : 83 + 1 = 84) ?_
    refine g_i2b X174 hx hby at_84 (rfl : 84 + 1 = 85) ?_
    obtain ⟨T175, h175, X175, e175, W175, V175, st175⟩ := a_bastore X174 hx hby hZ e174 (ls := #[.val (.int x0), .val (.int x1), .val (.int x2), .val (.int x3), .val (.int (2 : Int32)), .val (.ref ob_158), .val (.ref ob_160)]) (st := []) (j := (1 : Int32)) (((x2.toInt8.toInt32) ^^^ (-1 : Int32)).toInt8.toInt32) 1 V174' ⟨by decide, by decide⟩ (by decide) (Nat.le_of_ble_eq_true rfl) at_85
    have Z175 : n0 ≤ h175.size := Nat.le_trans Z174 (Keep.of_wr W175).1
    have N175 := Fr.snoc X175 N174 ge159
    have V175' : Arv Z h175 ob_158 kk_158 .byte (2 : Int32) [(.int (((x1.toInt8.toInt32) ^^^ (-1 : Int32)).toInt8.toInt32)), (.int (((x2.toInt8.toInt32) ^^^ (-1 : Int32)).toInt8.toInt32))] (.int (0 : Int32)) := by have q := V175; rw [own_nb] at q; exact q
    refine own_go st175 ?_
    show own_Got p e below _ T175 (mkF m 86 #[.val (.int x0), .val (.int x1), .val (.int x2), .val (.int x3), .val (.int (2 : Int32)), .val (.ref ob_158), .val (.ref ob_160)] [])
    refine g_iload X175 hx hby at_86 rfl (rfl : 86 + 2 = 88) ?_
    refine g_iconst X175 hx hby (3 : Int32) at_88 (by decide) (rfl : 88 + 1 = 89) ?_
    refine g_icT X175 hx hby at_89 (tlt (by decide : (2 : Int32) < (3 : Int32))).1 (by decide) (pc' := 103) (by decide) ?_
    refine g_aload X175 hx hby at_103 rfl rfl (rfl : 103 + 2 = 105) ?_
    have f177 : Fld Z h175 ob_160 "com/example/coppice/coppice/tree/ByteString" "_bytes" "[B" (.ref oc_160) := (Fld.other W175 (Fld.other W174 (Fld.keep q160_2 K166 nin0) (Or.inl (Ne.symm ne161))) (Or.inl (Ne.symm ne161)))
    have f178 : Arv Z h175 oc_160 kk_158 .byte (2 : Int32) [(.int (x1.toInt8.toInt32)), (.int (x2.toInt8.toInt32))] (.int (0 : Int32)) := (Arv.other (Arv.other (Arv.keep q160_5 K166 nin0) W174 (Ne.symm ne163)) W175 (Ne.symm ne163))
    have f179 : Exa Z h175 ob_160 "com/example/coppice/coppice/tree/ByteString" := (Exa.wr W175 (Exa.wr W174 (Exa.keep q160_1 K166)))
    obtain ⟨cq176, kq176, q176a, q176b, q176c⟩ := isOf hZ e175 f179
    obtain ⟨_, _, ⟨T176, L176, k176, n176⟩, -, X176, ⟨Lc176, hQ176, l176, y176, z176⟩, st176⟩ := X175.virtualBack hx (y := (⟨"com/example/coppice/coppice/tree/ByteString", "size", "()I"⟩ : MethodName)) (z := (⟨"com/example/coppice/coppice/tree/ByteString", "size", "()I"⟩ : MethodName)) hown (mvT hZ (hw _ (List.mem_of_getElem? (i := 28) rfl))) (mvT hZ (hw _ (List.mem_of_getElem? (i := 29) rfl))) (notFace_of_selects (args := #[]) (mvT hZ (hw _ (List.mem_of_getElem? (i := 31) rfl)))) (mvT hZ (hw _ (List.mem_of_getElem? (i := 31) rfl))) (mvT hZ (hw _ (List.mem_of_getElem? (i := 30) rfl))) (by decide) (backOf (W := 0) (rm_siz l Z aT hw [] ob_160 oc_160 kk_158 (2 : Int32) [(.int (x1.toInt8.toInt32)), (.int (x2.toInt8.toInt32))] h175 n0 Z175 f177 f178) hZ (hw _ (List.mem_of_getElem? (i := 32) rfl)) (hw _ (List.mem_of_getElem? (i := 7) rfl)) (by decide) (by decide)) q176a q176c (g := (mkF m 105 #[.val (.int x0), .val (.int x1), .val (.int x2), .val (.int x3), .val (.int (2 : Int32)), .val (.ref ob_158), .val (.ref ob_160)] [(.ref ob_160)])) rfl (by rw [hml]; rfl) (Steps.refl _) (argsL := []) (rest := []) (lenOf pd3 rfl) rfl (by show 2 * 0 + _ ≤ _; exact Nat.le_of_eq rfl) (hb hby at_105) (fun _ _ => ⟨rfl, e175, (by decide : 4 + 0 ≤ _), (by decide : 7 + 0 ≤ _)⟩)
    dsimp only [Pt.U, Pt.locs, Pt.cells, Pt.slots] at X176 l176 y176 z176 st176 hQ176
    subst l176 y176 z176
    obtain ⟨rfl, N176q, eq176⟩ := hQ176
    have N176 := Fr.app N175 N176q
    refine own_tr st176 ?_
    show own_Got p e below _ T176 (mkF m 108 #[.val (.int x0), .val (.int x1), .val (.int x2), .val (.int x3), .val (.int (2 : Int32)), .val (.ref ob_158), .val (.ref ob_160)] [(.int (2 : Int32))])
    refine g_iload X176 hx hby at_108 rfl (rfl : 108 + 2 = 110) ?_
    refine g_icT X176 hx hby at_110 (teq (by decide : (2 : Int32) = (2 : Int32))).1 (by decide) (pc' := 115) (by decide) ?_
    refine g_aload X176 hx hby at_115 rfl rfl (rfl : 115 + 2 = 117) ?_
    have f181 : Exa Z h175 oc_160 "[B" := (Exa.wr W175 (Exa.wr W174 (Exa.keep q160_4 K166)))
    have f182 : Exa Z h175 ob_158 "[B" := (Exa.wr W175 (Exa.wr W174 (Exa.keep f167 K166)))
    have f183 : Exa Z h175 oc_166 "[B" := (Exa.wr W175 (Exa.wr W174 q166_1))
    obtain ⟨cq180, kq180, q180a, q180b, q180c⟩ := isOf hZ eq176 f179
    obtain ⟨_, _, ⟨T180, L180, k180, n180⟩, -, X180, ⟨Lc180, hQ180, l180, y180, z180⟩, st180⟩ := X176.virtualBack hx (y := (⟨"com/example/coppice/coppice/tree/ByteString", "toByteArray", "()[B"⟩ : MethodName)) (z := (⟨"com/example/coppice/coppice/tree/ByteString", "toByteArray", "()[B"⟩ : MethodName)) hown (mvT hZ (hw _ (List.mem_of_getElem? (i := 33) rfl))) (mvT hZ (hw _ (List.mem_of_getElem? (i := 34) rfl))) (notFace_of_selects (args := #[]) (mvT hZ (hw _ (List.mem_of_getElem? (i := 36) rfl)))) (mvT hZ (hw _ (List.mem_of_getElem? (i := 36) rfl))) (mvT hZ (hw _ (List.mem_of_getElem? (i := 35) rfl))) (by decide) (backOf (W := 0) (rm_ta2 l Z aT hw [] ob_160 oc_160 kk_158 (x1.toInt8.toInt32) (x2.toInt8.toInt32) h175 n0 Z175 f177 f181 f178) hZ (hw _ (List.mem_of_getElem? (i := 37) rfl)) (hw _ (List.mem_of_getElem? (i := 7) rfl)) (by decide) (by decide)) q180a q180c (g := (mkF m 117 #[.val (.int x0), .val (.int x1), .val (.int x2), .val (.int x3), .val (.int (2 : Int32)), .val (.ref ob_158), .val (.ref ob_160)] [(.ref ob_160)])) rfl (by rw [hml]; rfl) (Steps.refl _) (argsL := []) (rest := []) (lenOf pd4 rfl) rfl (by show 2 * 0 + _ ≤ _; exact Nat.le_of_eq rfl) (hb hby at_117) (fun _ _ => ⟨rfl, eq176, (by decide : 4 + 1 ≤ _), (by decide : 7 + 2 ≤ _)⟩)
    dsimp only [Pt.U, Pt.locs, Pt.cells, Pt.slots] at X180 l180 y180 z180 st180 hQ180
    subst l180 y180 z180
    obtain ⟨oc_180, rfl, N180q, K180, q180_0, q180_1, q180_2⟩ := hQ180
    have N180 := Fr.app N176 N180q
    have Z180 : n0 ≤ T180.heap.size := Nat.le_trans Z175 K180.1
    have ne184 : ob_158 ≠ oc_180 := Nat.ne_of_lt (Nat.lt_of_lt_of_le (f182).lt q180_0)
    have ne185 : ob_160 ≠ oc_180 := Nat.ne_of_lt (Nat.lt_of_lt_of_le (f179).lt q180_0)
    have ne186 : oc_160 ≠ oc_180 := Nat.ne_of_lt (Nat.lt_of_lt_of_le (f181).lt q180_0)
    have ne187 : oc_166 ≠ oc_180 := Nat.ne_of_lt (Nat.lt_of_lt_of_le (f183).lt q180_0)
    have ge188 : n0 ≤ oc_180 := Nat.le_trans Z175 q180_0
    refine own_tr st180 ?_
    show own_Got p e below _ T180 (mkF m 120 #[.val (.int x0), .val (.int x1), .val (.int x2), .val (.int x3), .val (.int (2 : Int32)), .val (.ref ob_158), .val (.ref ob_160)] [(.ref oc_180)])
    refine g_iload X180 hx hby at_120 rfl (rfl : 120 + 2 = 122) ?_
    refine g_iloadN X180 hx hby at_122 rfl (rfl : 122 + 1 = 123) ?_
    refine g_iloadN X180 hx hby at_123 rfl (rfl : 123 + 1 = 124) ?_
    refine g_iloadN X180 hx hby at_124 rfl (rfl : 124 + 1 = 125) ?_
    obtain ⟨_, _, ⟨T189, L189, k189, n189⟩, -, X189, ⟨Lc189, hQ189, l189, y189, z189⟩, st189⟩ := Jvm.LawKit.callS X180 hx (y := (⟨"com/example/coppice/coppice/tree/ByteStringOfPinLaw", "holds", "([BIIII)Z"⟩ : MethodName)) hown (mvT hZ (hw _ (List.mem_of_getElem? (i := 38) rfl))) (mvT hZ (hw _ (List.mem_of_getElem? (i := 39) rfl))) (mvT hZ (hw _ (List.mem_of_getElem? (i := 2) rfl))) (mvT hZ (hw _ (List.mem_of_getElem? (i := 40) rfl))) (by decide) (backOf (W := 0) (rm_hd2 l Z aT hw [] oc_180 x1 x2 x3 kk_158 T180.heap n0 Z180 q180_2) hZ (hw _ (List.mem_of_getElem? (i := 40) rfl)) (hw _ (List.mem_of_getElem? (i := 2) rfl)) (by decide) (by decide)) (g := (mkF m 125 #[.val (.int x0), .val (.int x1), .val (.int x2), .val (.int x3), .val (.int (2 : Int32)), .val (.ref ob_158), .val (.ref ob_160)] [(.int x3), (.int x2), (.int x1), (.int (2 : Int32)), (.ref oc_180)])) rfl (by rw [hml]; rfl) (argsL := [(.ref oc_180), (.int (2 : Int32)), (.int x1), (.int x2), (.int x3)]) (rest := []) (lenOf pd5 rfl) rfl (by show 2 * 0 + _ ≤ _; exact Nat.le_of_eq rfl) (hb hby at_125) (fun _ _ => ⟨rfl, rfl, (by decide : 5 + 0 ≤ _), (by decide : 9 + 0 ≤ _)⟩)
    dsimp only [Pt.U, Pt.locs, Pt.cells, Pt.slots] at X189 l189 y189 z189 st189 hQ189
    subst l189 y189 z189
    obtain ⟨rfl, N189q, eq189⟩ := hQ189
    have N189 := Fr.app N180 N189q
    refine own_go st189 ?_
    show own_Got p e below _ T189 (mkF m 128 #[.val (.int x0), .val (.int x1), .val (.int x2), .val (.int x3), .val (.int (2 : Int32)), .val (.ref ob_158), .val (.ref ob_160)] [(.int (1 : Int32))])
    refine own_retN X189 hx hby hlk (t := .boolean) hrt (by simp) at_128 (by decide) (by decide) ?_
    show Q_law Z x0 x1 x2 x3 h0 n0 _ T189.heap _
    exact ⟨rfl, N189⟩
  · rw [hk98]
    refine g_iload X0 hx hby at_5 rfl (rfl : 5 + 2 = 7) ?_
    refine g_iloadN X0 hx hby at_7 rfl (rfl : 7 + 1 = 8) ?_
    refine g_iloadN X0 hx hby at_8 rfl (rfl : 8 + 1 = 9) ?_
    refine g_iloadN X0 hx hby at_9 rfl (rfl : 9 + 1 = 10) ?_
    obtain ⟨_, _, ⟨T190, L190, k190, n190⟩, -, X190, ⟨Lc190, hQ190, l190, y190, z190⟩, st190⟩ := Jvm.LawKit.callS X0 hx (y := (⟨"com/example/coppice/coppice/tree/ByteStringOfPinLaw", "make", "(IIII)[B"⟩ : MethodName)) hown (mvT hZ (hw _ (List.mem_of_getElem? (i := 0) rfl))) (mvT hZ (hw _ (List.mem_of_getElem? (i := 1) rfl))) (mvT hZ (hw _ (List.mem_of_getElem? (i := 2) rfl))) (mvT hZ (hw _ (List.mem_of_getElem? (i := 3) rfl))) (by decide) (backOf (W := 0) (rm_mk3 l Z aT hw [] x1 x2 x3 h0 n0 Z0) hZ (hw _ (List.mem_of_getElem? (i := 3) rfl)) (hw _ (List.mem_of_getElem? (i := 2) rfl)) (by decide) (by decide)) (g := (mkF m 10 #[.val (.int x0), .val (.int x1), .val (.int x2), .val (.int x3), .val (.int (3 : Int32)), .unset, .unset] [(.int x3), (.int x2), (.int x1), (.int (3 : Int32))])) rfl (by rw [hml]; rfl) (argsL := [(.int (3 : Int32)), (.int x1), (.int x2), (.int x3)]) (rest := []) (lenOf pd1 rfl) rfl (by show 2 * 0 + _ ≤ _; exact Nat.le_of_eq rfl) (hb hby at_10) (fun _ _ => ⟨rfl, e0, (by decide : 0 + 1 ≤ _), (by decide : 0 + 3 ≤ _)⟩)
    dsimp only [Pt.U, Pt.locs, Pt.cells, Pt.slots] at X190 l190 y190 z190 st190 hQ190
    subst l190 y190 z190
    obtain ⟨ob_190, kk_190, rfl, N190q, K190, q190_0, q190_1, q190_2⟩ := hQ190
    have N190 := Fr.app N0 N190q
    have Z190 : n0 ≤ T190.heap.size := Nat.le_trans Z0 K190.1
    have ge191 : n0 ≤ ob_190 := Nat.le_trans Z0 q190_0
    refine own_go st190 ?_
    show own_Got p e below _ T190 (mkF m 13 #[.val (.int x0), .val (.int x1), .val (.int x2), .val (.int x3), .val (.int (3 : Int32)), .unset, .unset] [(.ref ob_190)])
    refine g_astore X190 hx hby #[.val (.int x0), .val (.int x1), .val (.int x2), .val (.int x3), .val (.int (3 : Int32)), .val (.ref ob_190), .unset] at_13 rfl rfl (rfl : 13 + 2 = 15) ?_
    refine g_aload X190 hx hby at_15 rfl rfl (rfl : 15 + 2 = 17) ?_
    obtain ⟨_, _, ⟨T192, L192, k192, n192⟩, -, X192, ⟨Lc192, hQ192, l192, y192, z192⟩, st192⟩ := Jvm.LawKit.callS X190 hx (y := (⟨"com/example/coppice/coppice/tree/ByteString", "of", "([B)Lcom/example/coppice/coppice/tree/ByteString;"⟩ : MethodName)) hown (mvT hZ (hw _ (List.mem_of_getElem? (i := 5) rfl))) (mvT hZ (hw _ (List.mem_of_getElem? (i := 6) rfl))) (mvT hZ (hw _ (List.mem_of_getElem? (i := 7) rfl))) (mvT hZ (hw _ (List.mem_of_getElem? (i := 8) rfl))) (by decide) (backOf (W := 0) (rm_of3 l Z aT hw [] ob_190 kk_190 (x1.toInt8.toInt32) (x2.toInt8.toInt32) (x3.toInt8.toInt32) T190.heap n0 Z190 q190_1 q190_2) hZ (hw _ (List.mem_of_getElem? (i := 8) rfl)) (hw _ (List.mem_of_getElem? (i := 7) rfl)) (by decide) (by decide)) (g := (mkF m 17 #[.val (.int x0), .val (.int x1), .val (.int x2), .val (.int x3), .val (.int (3 : Int32)), .val (.ref ob_190), .unset] [(.ref ob_190)])) rfl (by rw [hml]; rfl) (argsL := [(.ref ob_190)]) (rest := []) (lenOf pd2 rfl) rfl (by show 2 * 0 + _ ≤ _; exact Nat.le_of_eq rfl) (hb hby at_17) (fun _ _ => ⟨rfl, rfl, (by decide : 1 + 2 ≤ _), (by decide : 3 + 4 ≤ _)⟩)
    dsimp only [Pt.U, Pt.locs, Pt.cells, Pt.slots] at X192 l192 y192 z192 st192 hQ192
    subst l192 y192 z192
    obtain ⟨ob_192, oc_192, rfl, N192q, K192, q192_0, q192_1, q192_2, q192_3, q192_4, q192_5⟩ := hQ192
    have N192 := Fr.app N190 N192q
    have Z192 : n0 ≤ T192.heap.size := Nat.le_trans Z190 K192.1
    have ne193 : ob_190 ≠ ob_192 := Nat.ne_of_lt (Nat.lt_of_lt_of_le (q190_1).lt q192_0)
    have ge194 : n0 ≤ ob_192 := Nat.le_trans Z190 q192_0
    have ne195 : ob_190 ≠ oc_192 := Nat.ne_of_lt (Nat.lt_of_lt_of_le (q190_1).lt q192_3)
    have ge196 : n0 ≤ oc_192 := Nat.le_trans Z190 q192_3
    refine own_go st192 ?_
    show own_Got p e below _ T192 (mkF m 20 #[.val (.int x0), .val (.int x1), .val (.int x2), .val (.int x3), .val (.int (3 : Int32)), .val (.ref ob_190), .unset] [(.ref ob_192)])
    refine g_astore X192 hx hby #[.val (.int x0), .val (.int x1), .val (.int x2), .val (.int x3), .val (.int (3 : Int32)), .val (.ref ob_190), .val (.ref ob_192)] at_20 rfl rfl (rfl : 20 + 2 = 22) ?_
    refine g_aload X192 hx hby at_22 rfl rfl (rfl : 22 + 2 = 24) ?_
    obtain ⟨cq197, kq197, q197a, q197b, q197c⟩ := isOf hZ rfl q192_1
    obtain ⟨_, _, ⟨T197, L197, k197, n197⟩, -, X197, ⟨Lc197, hQ197, l197, y197, z197⟩, st197⟩ := X192.virtualBack hx (y := (⟨"com/example/coppice/coppice/tree/ByteString", "size", "()I"⟩ : MethodName)) (z := (⟨"com/example/coppice/coppice/tree/ByteString", "size", "()I"⟩ : MethodName)) hown (mvT hZ (hw _ (List.mem_of_getElem? (i := 28) rfl))) (mvT hZ (hw _ (List.mem_of_getElem? (i := 29) rfl))) (notFace_of_selects (args := #[]) (mvT hZ (hw _ (List.mem_of_getElem? (i := 31) rfl)))) (mvT hZ (hw _ (List.mem_of_getElem? (i := 31) rfl))) (mvT hZ (hw _ (List.mem_of_getElem? (i := 30) rfl))) (by decide) (backOf (W := 0) (rm_siz l Z aT hw [] ob_192 oc_192 kk_190 (3 : Int32) [(.int (x1.toInt8.toInt32)), (.int (x2.toInt8.toInt32)), (.int (x3.toInt8.toInt32))] T192.heap n0 Z192 q192_2 q192_5) hZ (hw _ (List.mem_of_getElem? (i := 32) rfl)) (hw _ (List.mem_of_getElem? (i := 7) rfl)) (by decide) (by decide)) q197a q197c (g := (mkF m 24 #[.val (.int x0), .val (.int x1), .val (.int x2), .val (.int x3), .val (.int (3 : Int32)), .val (.ref ob_190), .val (.ref ob_192)] [(.ref ob_192)])) rfl (by rw [hml]; rfl) (Steps.refl _) (argsL := []) (rest := []) (lenOf pd3 rfl) rfl (by show 2 * 0 + _ ≤ _; exact Nat.le_of_eq rfl) (hb hby at_24) (fun _ _ => ⟨rfl, rfl, (by decide : 3 + 0 ≤ _), (by decide : 7 + 0 ≤ _)⟩)
    dsimp only [Pt.U, Pt.locs, Pt.cells, Pt.slots] at X197 l197 y197 z197 st197 hQ197
    subst l197 y197 z197
    obtain ⟨rfl, N197q, eq197⟩ := hQ197
    have N197 := Fr.app N192 N197q
    refine own_tr st197 ?_
    show own_Got p e below _ T197 (mkF m 27 #[.val (.int x0), .val (.int x1), .val (.int x2), .val (.int x3), .val (.int (3 : Int32)), .val (.ref ob_190), .val (.ref ob_192)] [(.int (3 : Int32))])
    refine g_iload X197 hx hby at_27 rfl (rfl : 27 + 2 = 29) ?_
    refine g_icT X197 hx hby at_29 (teq (by decide : (3 : Int32) = (3 : Int32))).1 (by decide) (pc' := 34) (by decide) ?_
    refine g_aload X197 hx hby at_34 rfl rfl (rfl : 34 + 2 = 36) ?_
    have f199 : Exa Z T192.heap ob_190 "[B" := (Exa.keep q190_1 K192)
    obtain ⟨cq198, kq198, q198a, q198b, q198c⟩ := isOf hZ eq197 q192_1
    obtain ⟨_, _, ⟨T198, L198, k198, n198⟩, -, X198, ⟨Lc198, hQ198, l198, y198, z198⟩, st198⟩ := X197.virtualBack hx (y := (⟨"com/example/coppice/coppice/tree/ByteString", "toByteArray", "()[B"⟩ : MethodName)) (z := (⟨"com/example/coppice/coppice/tree/ByteString", "toByteArray", "()[B"⟩ : MethodName)) hown (mvT hZ (hw _ (List.mem_of_getElem? (i := 33) rfl))) (mvT hZ (hw _ (List.mem_of_getElem? (i := 34) rfl))) (notFace_of_selects (args := #[]) (mvT hZ (hw _ (List.mem_of_getElem? (i := 36) rfl)))) (mvT hZ (hw _ (List.mem_of_getElem? (i := 36) rfl))) (mvT hZ (hw _ (List.mem_of_getElem? (i := 35) rfl))) (by decide) (backOf (W := 0) (rm_ta3 l Z aT hw [] ob_192 oc_192 kk_190 (x1.toInt8.toInt32) (x2.toInt8.toInt32) (x3.toInt8.toInt32) T192.heap n0 Z192 q192_2 q192_4 q192_5) hZ (hw _ (List.mem_of_getElem? (i := 37) rfl)) (hw _ (List.mem_of_getElem? (i := 7) rfl)) (by decide) (by decide)) q198a q198c (g := (mkF m 36 #[.val (.int x0), .val (.int x1), .val (.int x2), .val (.int x3), .val (.int (3 : Int32)), .val (.ref ob_190), .val (.ref ob_192)] [(.ref ob_192)])) rfl (by rw [hml]; rfl) (Steps.refl _) (argsL := []) (rest := []) (lenOf pd4 rfl) rfl (by show 2 * 0 + _ ≤ _; exact Nat.le_of_eq rfl) (hb hby at_36) (fun _ _ => ⟨rfl, eq197, (by decide : 3 + 1 ≤ _), (by decide : 7 + 3 ≤ _)⟩)
    dsimp only [Pt.U, Pt.locs, Pt.cells, Pt.slots] at X198 l198 y198 z198 st198 hQ198
    subst l198 y198 z198
    obtain ⟨oc_198, rfl, N198q, K198, q198_0, q198_1, q198_2⟩ := hQ198
    have N198 := Fr.app N197 N198q
    have Z198 : n0 ≤ T198.heap.size := Nat.le_trans Z192 K198.1
    have ne200 : ob_190 ≠ oc_198 := Nat.ne_of_lt (Nat.lt_of_lt_of_le (f199).lt q198_0)
    have ne201 : ob_192 ≠ oc_198 := Nat.ne_of_lt (Nat.lt_of_lt_of_le (q192_1).lt q198_0)
    have ne202 : oc_192 ≠ oc_198 := Nat.ne_of_lt (Nat.lt_of_lt_of_le (q192_4).lt q198_0)
    have ge203 : n0 ≤ oc_198 := Nat.le_trans Z192 q198_0
    refine own_tr st198 ?_
    show own_Got p e below _ T198 (mkF m 39 #[.val (.int x0), .val (.int x1), .val (.int x2), .val (.int x3), .val (.int (3 : Int32)), .val (.ref ob_190), .val (.ref ob_192)] [(.ref oc_198)])
    refine g_iload X198 hx hby at_39 rfl (rfl : 39 + 2 = 41) ?_
    refine g_iloadN X198 hx hby at_41 rfl (rfl : 41 + 1 = 42) ?_
    refine g_iloadN X198 hx hby at_42 rfl (rfl : 42 + 1 = 43) ?_
    refine g_iloadN X198 hx hby at_43 rfl (rfl : 43 + 1 = 44) ?_
    obtain ⟨_, _, ⟨T204, L204, k204, n204⟩, -, X204, ⟨Lc204, hQ204, l204, y204, z204⟩, st204⟩ := Jvm.LawKit.callS X198 hx (y := (⟨"com/example/coppice/coppice/tree/ByteStringOfPinLaw", "holds", "([BIIII)Z"⟩ : MethodName)) hown (mvT hZ (hw _ (List.mem_of_getElem? (i := 38) rfl))) (mvT hZ (hw _ (List.mem_of_getElem? (i := 39) rfl))) (mvT hZ (hw _ (List.mem_of_getElem? (i := 2) rfl))) (mvT hZ (hw _ (List.mem_of_getElem? (i := 40) rfl))) (by decide) (backOf (W := 0) (rm_hd3 l Z aT hw [] oc_198 x1 x2 x3 kk_190 T198.heap n0 Z198 q198_2) hZ (hw _ (List.mem_of_getElem? (i := 40) rfl)) (hw _ (List.mem_of_getElem? (i := 2) rfl)) (by decide) (by decide)) (g := (mkF m 44 #[.val (.int x0), .val (.int x1), .val (.int x2), .val (.int x3), .val (.int (3 : Int32)), .val (.ref ob_190), .val (.ref ob_192)] [(.int x3), (.int x2), (.int x1), (.int (3 : Int32)), (.ref oc_198)])) rfl (by rw [hml]; rfl) (argsL := [(.ref oc_198), (.int (3 : Int32)), (.int x1), (.int x2), (.int x3)]) (rest := []) (lenOf pd5 rfl) rfl (by show 2 * 0 + _ ≤ _; exact Nat.le_of_eq rfl) (hb hby at_44) (fun _ _ => ⟨rfl, rfl, (by decide : 4 + 0 ≤ _), (by decide : 10 + 0 ≤ _)⟩)
    dsimp only [Pt.U, Pt.locs, Pt.cells, Pt.slots] at X204 l204 y204 z204 st204 hQ204
    subst l204 y204 z204
    obtain ⟨rfl, N204q, eq204⟩ := hQ204
    have N204 := Fr.app N198 N204q
    refine own_go st204 ?_
    show own_Got p e below _ T204 (mkF m 47 #[.val (.int x0), .val (.int x1), .val (.int x2), .val (.int x3), .val (.int (3 : Int32)), .val (.ref ob_190), .val (.ref ob_192)] [(.int (1 : Int32))])
    refine g_ifT X204 hx hby at_47 ((if0 _ _).trans (feq (by decide : ¬ ((1 : Int32) = (0 : Int32)))).2) (by decide) (pc' := 52) (by decide) ?_
    refine g_iload X204 hx hby at_52 rfl (rfl : 52 + 2 = 54) ?_
    refine g_iconst X204 hx hby (1 : Int32) at_54 (by decide) (rfl : 54 + 1 = 55) ?_
    refine g_icF X204 hx hby at_55 (flt (by decide : ¬ ((3 : Int32) < (1 : Int32)))).1 (rfl : 55 + 3 = 58) ?_
    refine g_aload X204 hx hby at_58 rfl rfl (rfl : 58 + 2 = 60) ?_
    refine g_iconst X204 hx hby (0 : Int32) at_60 (by decide) (rfl : 60 + 1 = 61) ?_
    refine g_aload X204 hx hby at_61 rfl rfl (rfl : 61 + 2 = 63) ?_
    refine g_iconst X204 hx hby (0 : Int32) at_63 (by decide) (rfl : 63 + 1 = 64) ?_
    have f205 : Arv Z T198.heap ob_190 kk_190 .byte (3 : Int32) [(.int (x1.toInt8.toInt32)), (.int (x2.toInt8.toInt32)), (.int (x3.toInt8.toInt32))] (.int (0 : Int32)) := (Arv.keep (Arv.keep q190_2 K192 nin0) K198 nin0)
    refine g_baload X204 hx hby hZ eq204 (v := (.int (x1.toInt8.toInt32))) f205 ⟨by decide, by decide⟩ rfl at_64 (rfl : 64 + 1 = 65) ?_
    refine g_iconst X204 hx hby (-1 : Int32) at_65 (by decide) (rfl : 65 + 1 = 66) ?_
    refine g_ixor X204 hx hby at_66 (rfl : 66 + 1 = 67) ?_
    refine g_i2b X204 hx hby at_67 (rfl : 67 + 1 = 68) ?_
    obtain ⟨T206, h206, X206, e206, W206, V206, st206⟩ := a_bastore X204 hx hby hZ eq204 (ls := #[.val (.int x0), .val (.int x1), .val (.int x2), .val (.int x3), .val (.int (3 : Int32)), .val (.ref ob_190), .val (.ref ob_192)]) (st := []) (j := (0 : Int32)) (((x1.toInt8.toInt32) ^^^ (-1 : Int32)).toInt8.toInt32) 0 f205 ⟨by decide, by decide⟩ (by decide) (Nat.le_of_ble_eq_true rfl) at_68
    have Z206 : n0 ≤ h206.size := Nat.le_trans Z198 (Keep.of_wr W206).1
    have N206 := Fr.snoc X206 N204 ge191
    have V206' : Arv Z h206 ob_190 kk_190 .byte (3 : Int32) [(.int (((x1.toInt8.toInt32) ^^^ (-1 : Int32)).toInt8.toInt32)), (.int (x2.toInt8.toInt32)), (.int (x3.toInt8.toInt32))] (.int (0 : Int32)) := by have q := V206; rw [own_nb] at q; exact q
    refine own_go st206 ?_
    show own_Got p e below _ T206 (mkF m 69 #[.val (.int x0), .val (.int x1), .val (.int x2), .val (.int x3), .val (.int (3 : Int32)), .val (.ref ob_190), .val (.ref ob_192)] [])
    refine g_iload X206 hx hby at_69 rfl (rfl : 69 + 2 = 71) ?_
    refine g_iconst X206 hx hby (2 : Int32) at_71 (by decide) (rfl : 71 + 1 = 72) ?_
    refine g_icF X206 hx hby at_72 (flt (by decide : ¬ ((3 : Int32) < (2 : Int32)))).1 (rfl : 72 + 3 = 75) ?_
    refine g_aload X206 hx hby at_75 rfl rfl (rfl : 75 + 2 = 77) ?_
    refine g_iconst X206 hx hby (1 : Int32) at_77 (by decide) (rfl : 77 + 1 = 78) ?_
    refine g_aload X206 hx hby at_78 rfl rfl (rfl : 78 + 2 = 80) ?_
    refine g_iconst X206 hx hby (1 : Int32) at_80 (by decide) (rfl : 80 + 1 = 81) ?_
    refine g_baload X206 hx hby hZ e206 (v := (.int (x2.toInt8.toInt32))) V206' ⟨by decide, by decide⟩ rfl at_81 (rfl : 81 + 1 = 82) ?_
    refine g_iconst X206 hx hby (-1 : Int32) at_82 (by decide) (rfl : 82 + 1 = 83) ?_
    refine g_ixor X206 hx hby at_83 (rfl : 83 + 1 = 84) ?_
    refine g_i2b X206 hx hby at_84 (rfl : 84 + 1 = 85) ?_
    obtain ⟨T207, h207, X207, e207, W207, V207, st207⟩ := a_bastore X206 hx hby hZ e206 (ls := #[.val (.int x0), .val (.int x1), .val (.int x2), .val (.int x3), .val (.int (3 : Int32)), .val (.ref ob_190), .val (.ref ob_192)]) (st := []) (j := (1 : Int32)) (((x2.toInt8.toInt32) ^^^ (-1 : Int32)).toInt8.toInt32) 1 V206' ⟨by decide, by decide⟩ (by decide) (Nat.le_of_ble_eq_true rfl) at_85
    have Z207 : n0 ≤ h207.size := Nat.le_trans Z206 (Keep.of_wr W207).1
    have N207 := Fr.snoc X207 N206 ge191
    have V207' : Arv Z h207 ob_190 kk_190 .byte (3 : Int32) [(.int (((x1.toInt8.toInt32) ^^^ (-1 : Int32)).toInt8.toInt32)), (.int (((x2.toInt8.toInt32) ^^^ (-1 : Int32)).toInt8.toInt32)), (.int (x3.toInt8.toInt32))] (.int (0 : Int32)) := by have q := V207; rw [own_nb] at q; exact q
    refine own_go st207 ?_
    show own_Got p e below _ T207 (mkF m 86 #[.val (.int x0), .val (.int x1), .val (.int x2), .val (.int x3), .val (.int (3 : Int32)), .val (.ref ob_190), .val (.ref ob_192)] [])
    refine g_iload X207 hx hby at_86 rfl (rfl : 86 + 2 = 88) ?_
    refine g_iconst X207 hx hby (3 : Int32) at_88 (by decide) (rfl : 88 + 1 = 89) ?_
    refine g_icF X207 hx hby at_89 (flt (by decide : ¬ ((3 : Int32) < (3 : Int32)))).1 (rfl : 89 + 3 = 92) ?_
    refine g_aload X207 hx hby at_92 rfl rfl (rfl : 92 + 2 = 94) ?_
    refine g_iconst X207 hx hby (2 : Int32) at_94 (by decide) (rfl : 94 + 1 = 95) ?_
    refine g_aload X207 hx hby at_95 rfl rfl (rfl : 95 + 2 = 97) ?_
    refine g_iconst X207 hx hby (2 : Int32) at_97 (by decide) (rfl : 97 + 1 = 98) ?_
    refine g_baload X207 hx hby hZ e207 (v := (.int (x3.toInt8.toInt32))) V207' ⟨by decide, by decide⟩ rfl at_98 (rfl : 98 + 1 = 99) ?_
    refine g_iconst X207 hx hby (-1 : Int32) at_99 (by decide) (rfl : 99 + 1 = 100) ?_
    refine g_ixor X207 hx hby at_100 (rfl : 100 + 1 = 101) ?_
    refine g_i2b X207 hx hby at_101 (rfl : 101 + 1 = 102) ?_
    obtain ⟨T208, h208, X208, e208, W208, V208, st208⟩ := a_bastore X207 hx hby hZ e207 (ls := #[.val (.int x0), .val (.int x1), .val (.int x2), .val (.int x3), .val (.int (3 : Int32)), .val (.ref ob_190), .val (.ref ob_192)]) (st := []) (j := (2 : Int32)) (((x3.toInt8.toInt32) ^^^ (-1 : Int32)).toInt8.toInt32) 2 V207' ⟨by decide, by decide⟩ (by decide) (Nat.le_of_ble_eq_true rfl) at_102
    have Z208 : n0 ≤ h208.size := Nat.le_trans Z207 (Keep.of_wr W208).1
    have N208 := Fr.snoc X208 N207 ge191
    have V208' : Arv Z h208 ob_190 kk_190 .byte (3 : Int32) [(.int (((x1.toInt8.toInt32) ^^^ (-1 : Int32)).toInt8.toInt32)), (.int (((x2.toInt8.toInt32) ^^^ (-1 : Int32)).toInt8.toInt32)), (.int (((x3.toInt8.toInt32) ^^^ (-1 : Int32)).toInt8.toInt32))] (.int (0 : Int32)) := by have q := V208; rw [own_nb] at q; exact q
    refine own_go st208 ?_
    show own_Got p e below _ T208 (mkF m 103 #[.val (.int x0), .val (.int x1), .val (.int x2), .val (.int x3), .val (.int (3 : Int32)), .val (.ref ob_190), .val (.ref ob_192)] [])
    refine g_aload X208 hx hby at_103 rfl rfl (rfl : 103 + 2 = 105) ?_
    have f210 : Fld Z h208 ob_192 "com/example/coppice/coppice/tree/ByteString" "_bytes" "[B" (.ref oc_192) := (Fld.other W208 (Fld.other W207 (Fld.other W206 (Fld.keep q192_2 K198 nin0) (Or.inl (Ne.symm ne193))) (Or.inl (Ne.symm ne193))) (Or.inl (Ne.symm ne193)))
    have f211 : Arv Z h208 oc_192 kk_190 .byte (3 : Int32) [(.int (x1.toInt8.toInt32)), (.int (x2.toInt8.toInt32)), (.int (x3.toInt8.toInt32))] (.int (0 : Int32)) := (Arv.other (Arv.other (Arv.other (Arv.keep q192_5 K198 nin0) W206 (Ne.symm ne195)) W207 (Ne.symm ne195)) W208 (Ne.symm ne195))
    have f212 : Exa Z h208 ob_192 "com/example/coppice/coppice/tree/ByteString" := (Exa.wr W208 (Exa.wr W207 (Exa.wr W206 (Exa.keep q192_1 K198))))
    obtain ⟨cq209, kq209, q209a, q209b, q209c⟩ := isOf hZ e208 f212
    obtain ⟨_, _, ⟨T209, L209, k209, n209⟩, -, X209, ⟨Lc209, hQ209, l209, y209, z209⟩, st209⟩ := X208.virtualBack hx (y := (⟨"com/example/coppice/coppice/tree/ByteString", "size", "()I"⟩ : MethodName)) (z := (⟨"com/example/coppice/coppice/tree/ByteString", "size", "()I"⟩ : MethodName)) hown (mvT hZ (hw _ (List.mem_of_getElem? (i := 28) rfl))) (mvT hZ (hw _ (List.mem_of_getElem? (i := 29) rfl))) (notFace_of_selects (args := #[]) (mvT hZ (hw _ (List.mem_of_getElem? (i := 31) rfl)))) (mvT hZ (hw _ (List.mem_of_getElem? (i := 31) rfl))) (mvT hZ (hw _ (List.mem_of_getElem? (i := 30) rfl))) (by decide) (backOf (W := 0) (rm_siz l Z aT hw [] ob_192 oc_192 kk_190 (3 : Int32) [(.int (x1.toInt8.toInt32)), (.int (x2.toInt8.toInt32)), (.int (x3.toInt8.toInt32))] h208 n0 Z208 f210 f211) hZ (hw _ (List.mem_of_getElem? (i := 32) rfl)) (hw _ (List.mem_of_getElem? (i := 7) rfl)) (by decide) (by decide)) q209a q209c (g := (mkF m 105 #[.val (.int x0), .val (.int x1), .val (.int x2), .val (.int x3), .val (.int (3 : Int32)), .val (.ref ob_190), .val (.ref ob_192)] [(.ref ob_192)])) rfl (by rw [hml]; rfl) (Steps.refl _) (argsL := []) (rest := []) (lenOf pd3 rfl) rfl (by show 2 * 0 + _ ≤ _; exact Nat.le_of_eq rfl) (hb hby at_105) (fun _ _ => ⟨rfl, e208, (by decide : 4 + 0 ≤ _), (by decide : 10 + 0 ≤ _)⟩)
    dsimp only [Pt.U, Pt.locs, Pt.cells, Pt.slots] at X209 l209 y209 z209 st209 hQ209
    subst l209 y209 z209
    obtain ⟨rfl, N209q, eq209⟩ := hQ209
    have N209 := Fr.app N208 N209q
    refine own_tr st209 ?_
    show own_Got p e below _ T209 (mkF m 108 #[.val (.int x0), .val (.int x1), .val (.int x2), .val (.int x3), .val (.int (3 : Int32)), .val (.ref ob_190), .val (.ref ob_192)] [(.int (3 : Int32))])
    refine g_iload X209 hx hby at_108 rfl (rfl : 108 + 2 = 110) ?_
    refine g_icT X209 hx hby at_110 (teq (by decide : (3 : Int32) = (3 : Int32))).1 (by decide) (pc' := 115) (by decide) ?_
    refine g_aload X209 hx hby at_115 rfl rfl (rfl : 115 + 2 = 117) ?_
    have f214 : Exa Z h208 oc_192 "[B" := (Exa.wr W208 (Exa.wr W207 (Exa.wr W206 (Exa.keep q192_4 K198))))
    have f215 : Exa Z h208 ob_190 "[B" := (Exa.wr W208 (Exa.wr W207 (Exa.wr W206 (Exa.keep f199 K198))))
    have f216 : Exa Z h208 oc_198 "[B" := (Exa.wr W208 (Exa.wr W207 (Exa.wr W206 q198_1)))
    obtain ⟨cq213, kq213, q213a, q213b, q213c⟩ := isOf hZ eq209 f212
    obtain ⟨_, _, ⟨T213, L213, k213, n213⟩, -, X213, ⟨Lc213, hQ213, l213, y213, z213⟩, st213⟩ := X209.virtualBack hx (y := (⟨"com/example/coppice/coppice/tree/ByteString", "toByteArray", "()[B"⟩ : MethodName)) (z := (⟨"com/example/coppice/coppice/tree/ByteString", "toByteArray", "()[B"⟩ : MethodName)) hown (mvT hZ (hw _ (List.mem_of_getElem? (i := 33) rfl))) (mvT hZ (hw _ (List.mem_of_getElem? (i := 34) rfl))) (notFace_of_selects (args := #[]) (mvT hZ (hw _ (List.mem_of_getElem? (i := 36) rfl)))) (mvT hZ (hw _ (List.mem_of_getElem? (i := 36) rfl))) (mvT hZ (hw _ (List.mem_of_getElem? (i := 35) rfl))) (by decide) (backOf (W := 0) (rm_ta3 l Z aT hw [] ob_192 oc_192 kk_190 (x1.toInt8.toInt32) (x2.toInt8.toInt32) (x3.toInt8.toInt32) h208 n0 Z208 f210 f214 f211) hZ (hw _ (List.mem_of_getElem? (i := 37) rfl)) (hw _ (List.mem_of_getElem? (i := 7) rfl)) (by decide) (by decide)) q213a q213c (g := (mkF m 117 #[.val (.int x0), .val (.int x1), .val (.int x2), .val (.int x3), .val (.int (3 : Int32)), .val (.ref ob_190), .val (.ref ob_192)] [(.ref ob_192)])) rfl (by rw [hml]; rfl) (Steps.refl _) (argsL := []) (rest := []) (lenOf pd4 rfl) rfl (by show 2 * 0 + _ ≤ _; exact Nat.le_of_eq rfl) (hb hby at_117) (fun _ _ => ⟨rfl, eq209, (by decide : 4 + 1 ≤ _), (by decide : 10 + 3 ≤ _)⟩)
    dsimp only [Pt.U, Pt.locs, Pt.cells, Pt.slots] at X213 l213 y213 z213 st213 hQ213
    subst l213 y213 z213
    obtain ⟨oc_213, rfl, N213q, K213, q213_0, q213_1, q213_2⟩ := hQ213
    have N213 := Fr.app N209 N213q
    have Z213 : n0 ≤ T213.heap.size := Nat.le_trans Z208 K213.1
    have ne217 : ob_190 ≠ oc_213 := Nat.ne_of_lt (Nat.lt_of_lt_of_le (f215).lt q213_0)
    have ne218 : ob_192 ≠ oc_213 := Nat.ne_of_lt (Nat.lt_of_lt_of_le (f212).lt q213_0)
    have ne219 : oc_192 ≠ oc_213 := Nat.ne_of_lt (Nat.lt_of_lt_of_le (f214).lt q213_0)
    have ne220 : oc_198 ≠ oc_213 := Nat.ne_of_lt (Nat.lt_of_lt_of_le (f216).lt q213_0)
    have ge221 : n0 ≤ oc_213 := Nat.le_trans Z208 q213_0
    refine own_tr st213 ?_
    show own_Got p e below _ T213 (mkF m 120 #[.val (.int x0), .val (.int x1), .val (.int x2), .val (.int x3), .val (.int (3 : Int32)), .val (.ref ob_190), .val (.ref ob_192)] [(.ref oc_213)])
    refine g_iload X213 hx hby at_120 rfl (rfl : 120 + 2 = 122) ?_
    refine g_iloadN X213 hx hby at_122 rfl (rfl : 122 + 1 = 123) ?_
    refine g_iloadN X213 hx hby at_123 rfl (rfl : 123 + 1 = 124) ?_
    refine g_iloadN X213 hx hby at_124 rfl (rfl : 124 + 1 = 125) ?_
    obtain ⟨_, _, ⟨T222, L222, k222, n222⟩, -, X222, ⟨Lc222, hQ222, l222, y222, z222⟩, st222⟩ := Jvm.LawKit.callS X213 hx (y := (⟨"com/example/coppice/coppice/tree/ByteStringOfPinLaw", "holds", "([BIIII)Z"⟩ : MethodName)) hown (mvT hZ (hw _ (List.mem_of_getElem? (i := 38) rfl))) (mvT hZ (hw _ (List.mem_of_getElem? (i := 39) rfl))) (mvT hZ (hw _ (List.mem_of_getElem? (i := 2) rfl))) (mvT hZ (hw _ (List.mem_of_getElem? (i := 40) rfl))) (by decide) (backOf (W := 0) (rm_hd3 l Z aT hw [] oc_213 x1 x2 x3 kk_190 T213.heap n0 Z213 q213_2) hZ (hw _ (List.mem_of_getElem? (i := 40) rfl)) (hw _ (List.mem_of_getElem? (i := 2) rfl)) (by decide) (by decide)) (g := (mkF m 125 #[.val (.int x0), .val (.int x1), .val (.int x2), .val (.int x3), .val (.int (3 : Int32)), .val (.ref ob_190), .val (.ref ob_192)] [(.int x3), (.int x2), (.int x1), (.int (3 : Int32)), (.ref oc_213)])) rfl (by rw [hml]; rfl) (argsL := [(.ref oc_213), (.int (3 : Int32)), (.int x1), (.int x2), (.int x3)]) (rest := []) (lenOf pd5 rfl) rfl (by show 2 * 0 + _ ≤ _; exact Nat.le_of_eq rfl) (hb hby at_125) (fun _ _ => ⟨rfl, rfl, (by decide : 5 + 0 ≤ _), (by decide : 13 + 0 ≤ _)⟩)
    dsimp only [Pt.U, Pt.locs, Pt.cells, Pt.slots] at X222 l222 y222 z222 st222 hQ222
    subst l222 y222 z222
    obtain ⟨rfl, N222q, eq222⟩ := hQ222
    have N222 := Fr.app N213 N222q
    refine own_go st222 ?_
    show own_Got p e below _ T222 (mkF m 128 #[.val (.int x0), .val (.int x1), .val (.int x2), .val (.int x3), .val (.int (3 : Int32)), .val (.ref ob_190), .val (.ref ob_192)] [(.int (1 : Int32))])
    refine own_retN X222 hx hby hlk (t := .boolean) hrt (by simp) at_128 (by decide) (by decide) ?_
    show Q_law Z x0 x1 x2 x3 h0 n0 _ T222.heap _
    exact ⟨rfl, N222⟩
set_option maxRecDepth 65536 in
set_option maxHeartbeats 40000000 in
theorem comes_1 {Post : Tables → Env → Array Value → State → Outcome → State → Prop} (hpost : ∀ tb e args s v u, (limb_1_1.after args s (.returned v) u = true ∧ limb_1_2.after args s (.returned v) u = true ∧ True) → FrameEnd s (.returned v) u (Jvm.fieldLocs frame_1_writes args s ++ Jvm.arrayLocs frame_1_arrays args s ++ Jvm.staticLocs frame_1_statics s) 24 128 → Post tb e args s (.returned v) u) :
    ArmFor flags0 classFile x code maxLocals ret World_1 tables_1 room_1 Calls_1 rest_1 Pre_1 Post := by
  intro l hfl _ _ p e ha hc hk s m args below hf hA hF happ hP
  obtain ⟨hcalls, hrest, hpre⟩ := hP
  obtain ⟨-, -, -, hnamed, -, -, -, hat⟩ := (Spec.applies_iff hf).mp happ
  obtain ⟨hg, hn⟩ := and_e (Cond.before_iff.mp (show (Jvm.Cond.and given_1 narrow_1).before args s = true from hpre))
  obtain ⟨hcnt, hg0⟩ := and_e hg
  obtain ⟨ha0, hg1⟩ := and_e hg0
  obtain ⟨ha1, hg2⟩ := and_e hg1
  obtain ⟨ha2, hg3⟩ := and_e hg2
  obtain ⟨w0, w1, w2, w3, rfl⟩ : ∃ w0 w1 w2 w3 : Value, args = #[w0, w1, w2, w3] := by
    have hs : args.size = 4 := by simpa [Cond.value, given_1] using hcnt
    obtain ⟨L⟩ := args
    match L, hs with
    | [w0, w1, w2, w3], _ => exact ⟨w0, w1, w2, w3, rfl⟩
  have hw := fun d (hd : d ∈ tables_1) => atoms_spec (ws := Jvm.Cond.code x code maxLocals ret :: tables_1) hat d (List.mem_cons_of_mem _ hd)
  have hfit : Fit s := fun {y c} hc i hi => by
    obtain ⟨ha, rfl⟩ := Array.getElem?_eq_some_iff.mp hc
    have q := List.all_eq_true.mp ((Array.all_eq_true_iff_forall_mem.mp hF) _ (Array.getElem_mem ha)) i (List.mem_range.mpr hi)
    simpa [Array.getElem?_eq_getElem hi] using q
  obtain ⟨i0, ei0⟩ := is_v ha0
  obtain rfl : w0 = (.int i0) := Option.some.inj ei0
  obtain ⟨i1, ei1⟩ := is_v ha1
  obtain rfl : w1 = (.int i1) := Option.some.inj ei1
  obtain ⟨i2, ei2⟩ := is_v ha2
  obtain rfl : w2 = (.int i2) := Option.some.inj ei2
  obtain ⟨i3, ei3⟩ := is_v hg3
  obtain rfl : w3 = (.int i3) := Option.some.inj ei3
  obtain ⟨n, o, h1, h2, h3, _, L, rfl, ⟨hv, N⟩, hq⟩ := rm_law l s _ hw tables_1 i0 i1 i2 i3 s.heap s.heap.size (Nat.le_refl _)  p e ha hc hk s m _ below hf ((Spec.applies_iff_loose hf).mp happ).1 ⟨rfl, State.Warmed39.refl s, rfl⟩ trivial
  subst hv
  refine ⟨n, _, h1, h2, h3, hpost _ _ _ _ _ _ ⟨Cond.after_iff.mpr rfl, Cond.after_iff.mpr (eq_i res_at (Term.int_eval (1)) rfl), trivial⟩ ⟨hq.1, hq.2.1, (hq.2.2.sift fun y hy => Or.inr (N y hy)).mono (by decide) (by decide)⟩⟩
theorem main_1_1 : Claimed_1_1 := comes_1 fun _ _ _ _ _ _ h hF => ⟨h.1, hF⟩
theorem main_1_2 : Claimed_1_2 := comes_1 fun _ _ _ _ _ _ h hF => ⟨h.2.1, hF⟩
end Jvm.Pilot.@@N@@
namespace Jvm.Pilot.@@N@@
open Jvm Jvm.ClassFile Sem Op Lib Jvm.Free Jvm.Stand Jvm.Pilot.@@N@@.Jvm.D
/-! MADE BY PROGRAM (witnessworld.py) out of the Statement's table words and the real class files: 9 classes; the members and pool entries that the words name. The judged class is class 1, her method 3. -/
namespace start1
open Jvm.ClassFile
def u (s : String) : CpInfo := .utf8 (stringToUtf16 s)
/-- a pool by its gaps: so many unusable entries, then the entry; so many at the end -/
def gap : Nat → List CpInfo → List CpInfo
  | 0, r => r
  | n + 1, r => .unusable :: gap n r
def poolList (es : List (Nat × CpInfo)) (last : Nat) : List CpInfo := es.foldr (fun e r => gap e.1 (e.2 :: r)) (gap last [])
def pool (es : List (Nat × CpInfo)) (last : Nat) : Array CpInfo := ⟨poolList es last⟩
def fileOf (pool : Array CpInfo) (this : Nat) (attrs : Array Attribute := #[]) (ms : Array MethodInfo := #[]) (fl : Nat := 33) (sup : Nat := 0) (ifs : Array Nat := #[]) (fds : Array FieldInfo := #[]) : ClassFile where
  minorVersion := 0
  majorVersion := 65
  constantPool := pool
  accessFlags := fl
  thisClass := this
  superClass := sup
  interfaces := ifs
  fields := fds
  methods := ms
  attributes := attrs
def plain (name : String) (sup : Option ClassId) : Class where
  name := name
  kind := .ordinary
  loader := none
  accessFlags := 33
  super := sup
  interfaces := #[]
  cf := none
  fields := #[]
  methods := #[]
  instanceTypes := #[]
  staticTypes := #[]
  resolved := #[]
  callSites := []
  init := .initialized
  statics := none
  mirror := none

def pool0 : Array CpInfo := pool [(5, u "<init>"), (0, u "()V"), (1, .class_ 10), (1, u "java/lang/Object"), (85, u "clone"), (0, u "()Ljava/lang/Object;")] 26

def k0c0 : Code := { maxStack := 0, maxLocals := 1, code := object_method_1_code, exceptionTable := #[], attributes := #[] }
def k0m0 : Method := { name := "<init>", desc := "()V", sig := { parameters := [], returnType := none }, accessFlags := 1, code := some k0c0 }
def k0m1 : Method := { name := "clone", desc := "()Ljava/lang/Object;", sig := { parameters := [], returnType := some (.object "java/lang/Object") }, accessFlags := 260, code := none }
/-- java/lang/Object -/
def k0 : Class := { plain "java/lang/Object" none with
  accessFlags := 33
  interfaces := #[]
  cf := some (fileOf pool0 8 #[] #[{ accessFlags := 1, nameIndex := 5, descriptorIndex := 6, attributes := #[] }, { accessFlags := 260, nameIndex := 96, descriptorIndex := 97, attributes := #[] }] 33 0 #[] #[])
  fields := #[]
  methods := #[k0m0, k0m1]
  instanceTypes := #[]
  staticTypes := #[]
  resolved := Array.replicate 124 none
  statics := none }

def pool1 : Array CpInfo := pool [(2, .class_ 4), (1, u "java/lang/Object"), (0, u "<init>"), (0, u "()V"), (0, .methodref 8 9), (0, .class_ 10), (0, .nameAndType 11 12), (0, u "com/example/coppice/coppice/tree/ByteStringOfPinLaw"), (0, u "make"), (0, u "(IIII)[B"), (0, .methodref 14 15), (0, .class_ 16), (0, .nameAndType 17 18), (0, u "com/example/coppice/coppice/tree/ByteString"), (0, u "of"), (0, u "([B)Lcom/example/coppice/coppice/tree/ByteString;"), (0, .methodref 14 20), (0, .nameAndType 21 22), (0, u "size"), (0, u "()I"), (0, .methodref 14 24), (0, .nameAndType 25 26), (0, u "toByteArray"), (0, u "()[B"), (0, .methodref 8 28), (0, .nameAndType 29 30), (0, u "holds"), (0, u "([BIIII)Z"), (3, u "law"), (0, u "(IIII)Z")] 4

def k1m0 : Method := { name := "<init>", desc := "()V", sig := { parameters := [], returnType := none }, accessFlags := 1, code := none }
def k1c1 : Code := { maxStack := 4, maxLocals := 4, code := method_2_code, exceptionTable := #[], attributes := #[] }
def k1m1 : Method := { name := "make", desc := "(IIII)[B", sig := { parameters := [.int, .int, .int, .int], returnType := some (.array .byte) }, accessFlags := 10, code := some k1c1 }
def k1c2 : Code := { maxStack := 2, maxLocals := 5, code := method_3_code, exceptionTable := #[], attributes := #[] }
def k1m2 : Method := { name := "holds", desc := "([BIIII)Z", sig := { parameters := [(.array .byte), .int, .int, .int, .int], returnType := some .boolean }, accessFlags := 10, code := some k1c2 }
def k1c3 : Code := { maxStack := 5, maxLocals := 7, code := code, exceptionTable := #[], attributes := #[] }
def k1m3 : Method := { name := "law", desc := "(IIII)Z", sig := { parameters := [.int, .int, .int, .int], returnType := some .boolean }, accessFlags := 9, code := some k1c3 }
/-- com/example/coppice/coppice/tree/ByteStringOfPinLaw -/
def k1 : Class := { plain "com/example/coppice/coppice/tree/ByteStringOfPinLaw" (some 0) with
  accessFlags := 49
  interfaces := #[]
  cf := some (fileOf pool1 8 #[] #[{ accessFlags := 1, nameIndex := 5, descriptorIndex := 6, attributes := #[] }, { accessFlags := 10, nameIndex := 11, descriptorIndex := 12, attributes := #[] }, { accessFlags := 10, nameIndex := 29, descriptorIndex := 30, attributes := #[] }, { accessFlags := 9, nameIndex := 34, descriptorIndex := 35, attributes := #[] }] 49 2 #[] #[])
  fields := #[]
  methods := #[k1m0, k1m1, k1m2, k1m3]
  instanceTypes := #[]
  staticTypes := #[]
  resolved := Array.replicate 40 none
  statics := none }

def pool2 : Array CpInfo := pool [(1, .methodref 2 3), (0, .class_ 4), (0, .nameAndType 5 6), (0, u "java/lang/Object"), (0, u "<init>"), (0, u "()V"), (0, .fieldref 8 9), (0, .class_ 10), (0, .nameAndType 11 12), (0, u "com/example/coppice/coppice/tree/ByteString"), (0, u "_bytes"), (0, u "[B"), (0, .methodref 14 15), (0, .class_ 12), (0, .nameAndType 16 17), (0, u "clone"), (0, u "()Ljava/lang/Object;"), (0, .methodref 8 19), (0, .nameAndType 5 20), (0, u "([B)V"), (81, u "()I"), (27, u "UTF8_ORDER"), (0, u "Ljava/util/Comparator;"), (3, u "ORDER"), (5, u "of"), (0, u "([B)Lcom/example/coppice/coppice/tree/ByteString;"), (3, u "size"), (0, u "toByteArray"), (0, u "()[B")] 41

def k2c0 : Code := { maxStack := 2, maxLocals := 2, code := prog_64_method_1_code, exceptionTable := #[], attributes := #[] }
def k2m0 : Method := { name := "<init>", desc := "([B)V", sig := { parameters := [(.array .byte)], returnType := none }, accessFlags := 2, code := some k2c0 }
def k2c1 : Code := { maxStack := 3, maxLocals := 1, code := prog_64_method_2_code, exceptionTable := #[], attributes := #[] }
def k2m1 : Method := { name := "of", desc := "([B)Lcom/example/coppice/coppice/tree/ByteString;", sig := { parameters := [(.array .byte)], returnType := some (.object "com/example/coppice/coppice/tree/ByteString") }, accessFlags := 9, code := some k2c1 }
def k2c2 : Code := { maxStack := 1, maxLocals := 1, code := prog_64_method_5_code, exceptionTable := #[], attributes := #[] }
def k2m2 : Method := { name := "size", desc := "()I", sig := { parameters := [], returnType := some .int }, accessFlags := 1, code := some k2c2 }
def k2c3 : Code := { maxStack := 1, maxLocals := 1, code := prog_64_method_6_code, exceptionTable := #[], attributes := #[] }
def k2m3 : Method := { name := "toByteArray", desc := "()[B", sig := { parameters := [], returnType := some (.array .byte) }, accessFlags := 1, code := some k2c3 }
/-- com/example/coppice/coppice/tree/ByteString -/
def k2 : Class := { plain "com/example/coppice/coppice/tree/ByteString" (some 0) with
  accessFlags := 49
  interfaces := #[]
  cf := some (fileOf pool2 8 #[] #[{ accessFlags := 2, nameIndex := 5, descriptorIndex := 20, attributes := #[] }, { accessFlags := 9, nameIndex := 141, descriptorIndex := 142, attributes := #[] }, { accessFlags := 1, nameIndex := 146, descriptorIndex := 102, attributes := #[] }, { accessFlags := 1, nameIndex := 147, descriptorIndex := 148, attributes := #[] }] 49 2 #[] #[{ accessFlags := 25, nameIndex := 130, descriptorIndex := 131, attributes := #[] }, { accessFlags := 25, nameIndex := 135, descriptorIndex := 131, attributes := #[] }, { accessFlags := 18, nameIndex := 11, descriptorIndex := 12, attributes := #[] }])
  fields := #[{ name := "UTF8_ORDER", type := (.object "java/util/Comparator"), accessFlags := 25, slot := 0, constantValue := 0 }, { name := "ORDER", type := (.object "java/util/Comparator"), accessFlags := 25, slot := 1, constantValue := 0 }, { name := "_bytes", type := (.array .byte), accessFlags := 18, slot := 0, constantValue := 0 }]
  methods := #[k2m0, k2m1, k2m2, k2m3]
  instanceTypes := #[(.array .byte)]
  staticTypes := #[(.object "java/util/Comparator"), (.object "java/util/Comparator")]
  resolved := Array.replicate 190 none
  statics := none }

def pool3 : Array CpInfo := pool [(1, .class_ 2), (0, u "java/lang/Cloneable"), (0, .class_ 4), (0, u "java/lang/Object")] 2

/-- java/lang/Cloneable -/
def k3 : Class := { plain "java/lang/Cloneable" (some 0) with
  accessFlags := 1537
  interfaces := #[]
  cf := some (fileOf pool3 1 #[] #[] 1537 3 #[] #[])
  fields := #[]
  methods := #[]
  instanceTypes := #[]
  staticTypes := #[]
  resolved := Array.replicate 7 none
  statics := none }

def pool4 : Array CpInfo := pool [(1, u "java/io/Serializable"), (0, .class_ 1), (0, u "java/lang/Object"), (0, .class_ 3)] 3

/-- java/io/Serializable -/
def k4 : Class := { plain "java/io/Serializable" (some 0) with
  accessFlags := 1537
  interfaces := #[]
  cf := some (fileOf pool4 2 #[] #[] 1537 4 #[] #[])
  fields := #[]
  methods := #[]
  instanceTypes := #[]
  staticTypes := #[]
  resolved := Array.replicate 8 none
  statics := none }

/-- the primitive byte -/
def k5 : Class := { plain "byte" none with kind := .primitive 'B', accessFlags := 0x411 }
/-- [B -/
def k6 : Class := { plain "[B" (some 0) with kind := .array 5 .byte, interfaces := #[3, 4], accessFlags := 1041 }

/-- the primitive int -/
def k7 : Class := { plain "int" none with kind := .primitive 'I', accessFlags := 0x411 }
/-- [I -/
def k8 : Class := { plain "[I" (some 0) with kind := .array 7 .int, interfaces := #[3, 4], accessFlags := 1041 }

def heap : Heap := #[]
def classes : Array Class := #[k0, k1, k2, k3, k4, k5, k6, k7, k8]
def interned : List (Array UInt16 × Addr) := []
def slotsUsed : Nat := 0
def theMethod : MethodId := ⟨1, 3⟩
def args0 : Array Value := #[.int 5, .int 3, .int 4, .int 9]
def aboutOver (below : List Frame) : State where
  vm := { classes := classes, interned := interned.toArray }
  heap := heap
  slotsUsed := slotsUsed
  threads := #[{ frames := .invoking theMethod args0 :: below }]
def below0 : List Frame := [.native { method := ⟨0, 0⟩, args := #[] }]
def about1 : State := aboutOver below0
def p0 : Program := .bare "" "" ""
def e0 : Env := launch0.env 0 0 0
theorem w_frames : about1.frames = Frame.invoking theMethod args0 :: below0 := rfl
set_option maxRecDepth 65536 in
theorem w_args : argsFit about1.vm theMethod args0 = true := by decide +kernel
set_option maxRecDepth 65536 in
theorem w_heap : heapFits about1 = true := by decide +kernel
set_option maxRecDepth 65536 in
theorem w_runnable : about1.curStatus? = some .runnable := by decide +kernel
set_option maxRecDepth 65536 in
theorem w_alone : about1.alone = true := by decide +kernel
set_option maxRecDepth 65536 in
theorem w_named : about1.methodNamed? x = some theMethod := by decide +kernel
set_option maxRecDepth 65536 in
theorem w_hears : about1.hears theMethod below0 = true := by decide +kernel
set_option maxRecDepth 65536 in
theorem w_ripe : about1.ripe theMethod args0 below0 = true := by decide +kernel
theorem w_running : about1.status = .running := rfl
set_option maxRecDepth 65536 in
theorem w_room : about1.hasRoom e0.platform room_1 = true :=
  launch0.hasRoom_least _ room_1 (by decide +kernel) (by decide +kernel) (by decide +kernel) (by decide +kernel) (by decide +kernel) (by decide +kernel)
theorem allAtoms_all (ts : List Jvm.Cond) (a : Array Jvm.Value) (st : Jvm.State) : (allAtoms ts).before a st = ts.all (fun c => c.before a st) := by
  induction ts with
  | nil => rfl
  | cons c t ih =>
    show (Jvm.Cond.and c (allAtoms t)).before a st = _
    rw [Jvm.Cond.before_and, ih, List.all_cons]
def words1 : List Jvm.Cond := Jvm.Cond.code x code maxLocals ret :: tables_1
/-- a 'code' word, met by the world's own term for the bytes: nothing is compared byte by byte -/
theorem code_word {y : MethodName} {bytes : ByteArray} {mx : Nat} {rt : Option FieldType} {a : Array Value} {s : State} {m : MethodId} {meth : Method} {c : Code} (h1 : s.methodNamed? y = some m) (h2 : s.vm.method? m = some meth) (h3 : meth.code = some c) (h4 : c.code = bytes)
    (h5 : (c.maxLocals == mx && c.exceptionTable.isEmpty && decide (c.maxStack ≤ mostOperands) && decide (meth.sig.returnType = rt) && !meth.locks && decide (parseMethodDescriptor y.desc = some meth.sig)) = true) : (Jvm.Cond.code y bytes mx rt).before a s = true := by
  simp only [Bool.and_eq_true, beq_iff_eq, Bool.not_eq_true', decide_eq_true_eq] at h5
  obtain ⟨⟨⟨⟨⟨g1, g2⟩, g3⟩, g4⟩, g5⟩, g6⟩ := h5
  simp [Cond.before, Cond.holds, Cond.value, h1, h2, h3, h4, g1, g2, g3, g4, g5, g6]
def isCode : Jvm.Cond → Bool
  | .code _ _ _ _ => true
  | _ => false
theorem all_split {L : List Jvm.Cond} {P : Jvm.Cond → Bool} (h1 : L.all (fun c => isCode c || P c) = true) (h2 : ∀ c ∈ L.filter isCode, P c = true) : L.all P = true := by
  refine List.all_eq_true.mpr fun c hc => ?_
  have h := List.all_eq_true.mp h1 c hc
  rcases Bool.eq_false_or_eq_true (isCode c) with hi | hi
  · exact h2 c (List.mem_filter.mpr ⟨hc, hi⟩)
  · simpa [hi] using h
set_option maxRecDepth 65536 in
theorem w_c0 : (Jvm.Cond.code x code maxLocals ret).before args0 about1 = true := code_word (m := ⟨1, 3⟩) (meth := k1m3) (c := k1c3) (by decide +kernel) rfl rfl rfl (by decide +kernel)
set_option maxRecDepth 65536 in
theorem w_c1 : (Jvm.Cond.code ({ cls := "com/example/coppice/coppice/tree/ByteStringOfPinLaw", name := "make", desc := "(IIII)[B" } : Jvm.MethodName) method_2_code (4 : Nat) (Option.some (Jvm.ClassFile.FieldType.array Jvm.ClassFile.FieldType.byte))).before args0 about1 = true := code_word (m := ⟨1, 1⟩) (meth := k1m1) (c := k1c1) (by decide +kernel) rfl rfl rfl (by decide +kernel)
set_option maxRecDepth 65536 in
theorem w_c2 : (Jvm.Cond.code ({ cls := "com/example/coppice/coppice/tree/ByteString", name := "of", desc := "([B)Lcom/example/coppice/coppice/tree/ByteString;" } : Jvm.MethodName) prog_64_method_2_code (1 : Nat) (Option.some (Jvm.ClassFile.FieldType.object "com/example/coppice/coppice/tree/ByteString"))).before args0 about1 = true := code_word (m := ⟨2, 1⟩) (meth := k2m1) (c := k2c1) (by decide +kernel) rfl rfl rfl (by decide +kernel)
set_option maxRecDepth 65536 in
theorem w_c3 : (Jvm.Cond.code ({ cls := "com/example/coppice/coppice/tree/ByteString", name := "<init>", desc := "([B)V" } : Jvm.MethodName) prog_64_method_1_code (2 : Nat) (Option.none : Option Jvm.ClassFile.FieldType)).before args0 about1 = true := code_word (m := ⟨2, 0⟩) (meth := k2m0) (c := k2c0) (by decide +kernel) rfl rfl rfl (by decide +kernel)
set_option maxRecDepth 65536 in
theorem w_c4 : (Jvm.Cond.code ({ cls := "java/lang/Object", name := "<init>", desc := "()V" } : Jvm.MethodName) object_method_1_code (1 : Nat) (Option.none : Option Jvm.ClassFile.FieldType)).before args0 about1 = true := code_word (m := ⟨0, 0⟩) (meth := k0m0) (c := k0c0) (by decide +kernel) rfl rfl rfl (by decide +kernel)
set_option maxRecDepth 65536 in
theorem w_c5 : (Jvm.Cond.code ({ cls := "com/example/coppice/coppice/tree/ByteString", name := "size", desc := "()I" } : Jvm.MethodName) prog_64_method_5_code (1 : Nat) (Option.some Jvm.ClassFile.FieldType.int)).before args0 about1 = true := code_word (m := ⟨2, 2⟩) (meth := k2m2) (c := k2c2) (by decide +kernel) rfl rfl rfl (by decide +kernel)
set_option maxRecDepth 65536 in
theorem w_c6 : (Jvm.Cond.code ({ cls := "com/example/coppice/coppice/tree/ByteString", name := "toByteArray", desc := "()[B" } : Jvm.MethodName) prog_64_method_6_code (1 : Nat) (Option.some (Jvm.ClassFile.FieldType.array Jvm.ClassFile.FieldType.byte))).before args0 about1 = true := code_word (m := ⟨2, 3⟩) (meth := k2m3) (c := k2c3) (by decide +kernel) rfl rfl rfl (by decide +kernel)
set_option maxRecDepth 65536 in
theorem w_c7 : (Jvm.Cond.code ({ cls := "com/example/coppice/coppice/tree/ByteStringOfPinLaw", name := "holds", desc := "([BIIII)Z" } : Jvm.MethodName) method_3_code (5 : Nat) (Option.some Jvm.ClassFile.FieldType.boolean)).before args0 about1 = true := code_word (m := ⟨1, 2⟩) (meth := k1m2) (c := k1c2) (by decide +kernel) rfl rfl rfl (by decide +kernel)
def codes1 : List Jvm.Cond := [Jvm.Cond.code x code maxLocals ret, Jvm.Cond.code ({ cls := "com/example/coppice/coppice/tree/ByteStringOfPinLaw", name := "make", desc := "(IIII)[B" } : Jvm.MethodName) method_2_code (4 : Nat) (Option.some (Jvm.ClassFile.FieldType.array Jvm.ClassFile.FieldType.byte)), Jvm.Cond.code ({ cls := "com/example/coppice/coppice/tree/ByteString", name := "of", desc := "([B)Lcom/example/coppice/coppice/tree/ByteString;" } : Jvm.MethodName) prog_64_method_2_code (1 : Nat) (Option.some (Jvm.ClassFile.FieldType.object "com/example/coppice/coppice/tree/ByteString")), Jvm.Cond.code ({ cls := "com/example/coppice/coppice/tree/ByteString", name := "<init>", desc := "([B)V" } : Jvm.MethodName) prog_64_method_1_code (2 : Nat) (Option.none : Option Jvm.ClassFile.FieldType), Jvm.Cond.code ({ cls := "java/lang/Object", name := "<init>", desc := "()V" } : Jvm.MethodName) object_method_1_code (1 : Nat) (Option.none : Option Jvm.ClassFile.FieldType), Jvm.Cond.code ({ cls := "com/example/coppice/coppice/tree/ByteString", name := "size", desc := "()I" } : Jvm.MethodName) prog_64_method_5_code (1 : Nat) (Option.some Jvm.ClassFile.FieldType.int), Jvm.Cond.code ({ cls := "com/example/coppice/coppice/tree/ByteString", name := "toByteArray", desc := "()[B" } : Jvm.MethodName) prog_64_method_6_code (1 : Nat) (Option.some (Jvm.ClassFile.FieldType.array Jvm.ClassFile.FieldType.byte)), Jvm.Cond.code ({ cls := "com/example/coppice/coppice/tree/ByteStringOfPinLaw", name := "holds", desc := "([BIIII)Z" } : Jvm.MethodName) method_3_code (5 : Nat) (Option.some Jvm.ClassFile.FieldType.boolean)]
set_option maxRecDepth 65536 in
theorem codes_eq : words1.filter isCode = codes1 := rfl
theorem w_codes : ∀ c ∈ words1.filter isCode, c.before args0 about1 = true := by
  rw [codes_eq]
  intro c hc
  simp only [codes1, List.mem_cons, List.not_mem_nil, or_false] at hc
  rcases hc with rfl | rfl | rfl | rfl | rfl | rfl | rfl | rfl
  · exact w_c0
  · exact w_c1
  · exact w_c2
  · exact w_c3
  · exact w_c4
  · exact w_c5
  · exact w_c6
  · exact w_c7
set_option maxRecDepth 65536 in
theorem w_t1 : (words1.take 24).all (fun c => isCode c || c.before args0 about1) = true := by decide +kernel
set_option maxRecDepth 65536 in
theorem w_t2 : (words1.drop 24).all (fun c => isCode c || c.before args0 about1) = true := by decide +kernel
theorem w_tables : (allAtoms (Jvm.Cond.code x code maxLocals ret :: tables_1)).before args0 about1 = true := by
  rw [allAtoms_all]
  show words1.all (fun c => c.before args0 about1) = true
  refine all_split ?_ w_codes
  rw [← List.take_append_drop 24 words1, List.all_append, w_t1, w_t2]
  rfl
set_option maxRecDepth 65536 in
theorem w_case : (Jvm.Cond.and given_1 narrow_1).before args0 about1 = true := by decide +kernel
theorem w_applies : (headSpec (Jvm.Cond.code x code maxLocals ret :: tables_1) room_1).applies x e0.platform about1 = true :=
  (Spec.applies_iff w_frames).mpr ⟨w_running, w_runnable, w_alone, w_named, w_hears, w_ripe, w_room, w_tables⟩
theorem atStart : AtStart classFile x code maxLocals ret World_1 tables_1 room_1 Calls_1 rest_1 Pre_1 launch0 p0 e0 about1 theMethod args0 below0 :=
  ⟨lists_1, trivial, launch0.admits_env _ _ _, launch0.least_env, fairChoices_fair.cas, fairChoices_fair.clock, w_frames, w_args, w_heap, w_applies, trivial, trivial, w_case⟩
end start1
theorem witness_1 : WitnessClaimed_1 := ⟨start1.p0, start1.e0, start1.about1, start1.theMethod, start1.args0, start1.below0, start1.atStart⟩
end Jvm.Pilot.@@N@@
