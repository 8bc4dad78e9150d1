import JvmDerived
import JvmDerived.Pilot.@@N@@Statement
import JvmDerived.Pilot.@@N@@Code
set_option linter.unusedVariables false
set_option linter.unusedSimpArgs false
@@BLOCK:NumsL.lean.txt@@
namespace Jvm.Pilot.@@N@@
open Jvm Jvm.ClassFile Sem Op Lib Jvm.Free Jvm.Stand Jvm.LawKit Jvm.RoadKit Bundle Jvm.Pilot.@@N@@.Jvm.D
/-! A MACHINE THAT CAN BE EVALUATED, over tokens: `.ref n` stands for the reference ρ n, `.retAddr n` for the int σ n, `.double n` for the long τ n. -/
section OwnMachine
def own_val (ρ : Nat → Addr) (σ : Nat → Int32) (τ : Nat → Int64) : Value → Value
  | .ref a => .ref (ρ a)
  | .retAddr n => .int (σ n)
  | .double b => .long (τ b.toNat)
  | v => v
def own_slot (ρ : Nat → Addr) (σ : Nat → Int32) (τ : Nat → Int64) : Slot → Slot
  | .val v => .val (own_val ρ σ τ v)
  | .unset => .unset
  | .second => .second
def own_isI : Value → Bool
  | .int _ => true
  | .retAddr _ => true
  | _ => false
def own_isL : Value → Bool
  | .long _ => true
  | .double _ => true
  | _ => false
def own_same (N : Nat) : Value → Value → Option Bool
  | .ref a, .ref b => if a < N ∧ b < N then some (decide (a = b)) else none
  | .null, .null => some true
  | .ref _, .null => some false
  | .null, .ref _ => some false
  | _, _ => none
def own_jmp (pc : Nat) (o : Int) : Option Nat := if 0 ≤ (pc : Int) + o then some ((pc : Int) + o).toNat else none
def own_put (ls : List Slot) (k : Nat) (v : Value) : Option (List Slot) :=
  if v.category = 1 then
    match ls[k]? with
    | some .unset => some (ls.set k (.val v))
    | some (.val w) => if w.category = 1 then some (ls.set k (.val v)) else none
    | _ => none
  else none
def own_dec1 (O : Jvm.ClassFile.Cond → Nat → Int32 → Option Bool) (cd : Jvm.ClassFile.Cond) : Value → Option Bool
  | .int x => some (ifCond.holds cd x)
  | .retAddr n => O cd n 0
  | _ => none
def own_dec2 (O : Jvm.ClassFile.Cond → Nat → Int32 → Option Bool) (cd : Jvm.ClassFile.Cond) : Value → Value → Option Bool
  | .int x, .int y => some (if_icmp.holds cd x y)
  | .retAddr n, .int y => O cd n y
  | _, _ => none
def own_step (N : Nat) (O : Jvm.ClassFile.Cond → Nat → Int32 → Option Bool) (i : Instr) (len pc : Nat) (ls : List Slot) (st : List Value) : Option (Nat × List Slot × List Value) :=
  match i with
  | .aload_n k => match ls[k.val]? with
    | some (.val v) => if len = 1 ∧ v.isRef = true then some (pc + 1, ls, v :: st) else none
    | _ => none
  | .aload k => match ls[k]? with
    | some (.val v) => if len = 2 ∧ v.isRef = true then some (pc + 2, ls, v :: st) else none
    | _ => none
  | .iload_n k => match ls[k.val]? with
    | some (.val v) => if len = 1 ∧ own_isI v = true then some (pc + 1, ls, v :: st) else none
    | _ => none
  | .iload k => match ls[k]? with
    | some (.val v) => if len = 2 ∧ own_isI v = true then some (pc + 2, ls, v :: st) else none
    | _ => none
  | .lload_n k => match ls[k.val]? with
    | some (.val v) => if len = 1 ∧ own_isL v = true then some (pc + 1, ls, v :: st) else none
    | _ => none
  | .lload k => match ls[k]? with
    | some (.val v) => if len = 2 ∧ own_isL v = true then some (pc + 2, ls, v :: st) else none
    | _ => none
  | .iconst z => if len = 1 then some (pc + 1, ls, .int (Int32.ofInt z) :: st) else none
  | .bipush z => if len = 2 then some (pc + 2, ls, .int (Int8.ofInt z).toInt32 :: st) else none
  | .sipush z => if len = 3 then some (pc + 3, ls, .int (Int16.ofInt z).toInt32 :: st) else none
  | .aconst_null => if len = 1 then some (pc + 1, ls, .null :: st) else none
  | .iadd => match st with
    | .int y :: .int x :: rest => if len = 1 then some (pc + 1, ls, .int (x + y) :: rest) else none
    | _ => none
  | .isub => match st with
    | .int y :: .int x :: rest => if len = 1 then some (pc + 1, ls, .int (x - y) :: rest) else none
    | _ => none
  | .iand => match st with
    | .int y :: .int x :: rest => if len = 1 then some (pc + 1, ls, .int (x &&& y) :: rest) else none
    | _ => none
  | .irem => match st with
    | .int y :: .int x :: rest => if len = 1 ∧ y ≠ 0 then some (pc + 1, ls, .int (x % y) :: rest) else none
    | _ => none
  | .imul => match st with
    | .int y :: .int x :: rest => if len = 1 then some (pc + 1, ls, .int (x * y) :: rest) else none
    | _ => none
  | .ior => match st with
    | .int y :: .int x :: rest => if len = 1 then some (pc + 1, ls, .int (x ||| y) :: rest) else none
    | _ => none
  | .ixor => match st with
    | .int y :: .int x :: rest => if len = 1 then some (pc + 1, ls, .int (x ^^^ y) :: rest) else none
    | _ => none
  | .ishr => match st with
    | .int y :: .int x :: rest => if len = 1 then some (pc + 1, ls, .int (x >>> (y &&& 31)) :: rest) else none
    | _ => none
  | .iushr => match st with
    | .int y :: .int x :: rest => if len = 1 then some (pc + 1, ls, .int (XT.ushr x y) :: rest) else none
    | _ => none
  | .ladd => match st with
    | .long y :: .long x :: rest => if len = 1 then some (pc + 1, ls, .long (x + y) :: rest) else none
    | _ => none
  | .lsub => match st with
    | .long y :: .long x :: rest => if len = 1 then some (pc + 1, ls, .long (x - y) :: rest) else none
    | _ => none
  | .lmul => match st with
    | .long y :: .long x :: rest => if len = 1 then some (pc + 1, ls, .long (x * y) :: rest) else none
    | _ => none
  | .ldiv => match st with
    | .long y :: .long x :: rest => if len = 1 ∧ y ≠ 0 then some (pc + 1, ls, .long (x / y) :: rest) else none
    | _ => none
  | .lcmp => match st with
    | .long y :: .long x :: rest => if len = 1 then some (pc + 1, ls, .int (XT.cmpL x y) :: rest) else none
    | _ => none
  | .i2l => match st with
    | .int x :: rest => if len = 1 then some (pc + 1, ls, .long x.toInt64 :: rest) else none
    | _ => none
  | .l2i => match st with
    | .long x :: rest => if len = 1 then some (pc + 1, ls, .int x.toInt32 :: rest) else none
    | _ => none
  | .lneg => match st with
    | .long x :: rest => if len = 1 then some (pc + 1, ls, .long (-x) :: rest) else none
    | _ => none
  | .i2b => match st with
    | .int x :: rest => if len = 1 then some (pc + 1, ls, .int x.toInt8.toInt32 :: rest) else none
    | _ => none
  | .lconst k => if len = 1 then some (pc + 1, ls, .long (Int64.ofNat k) :: st) else none
  | .iinc k z => match ls[k]? with
    | some (.val (.int v)) => if len = 3 then (own_put ls k (.int (v + Int32.ofInt z))).map fun l => (pc + 3, l, st) else none
    | _ => none
  | .dup => match st with
    | v :: rest => if len = 1 ∧ v.category = 1 then some (pc + 1, ls, v :: v :: rest) else none
    | _ => none
  | .pop => match st with
    | v :: rest => if len = 1 ∧ v.category = 1 then some (pc + 1, ls, rest) else none
    | _ => none
  | .istore_n k => match st with
    | v :: rest => if len = 1 ∧ own_isI v = true then (own_put ls k.val v).map fun l => (pc + 1, l, rest) else none
    | _ => none
  | .istore k => match st with
    | v :: rest => if len = 2 ∧ own_isI v = true then (own_put ls k v).map fun l => (pc + 2, l, rest) else none
    | _ => none
  | .astore_n k => match st with
    | v :: rest => if len = 1 ∧ v.isRef = true then (own_put ls k.val v).map fun l => (pc + 1, l, rest) else none
    | _ => none
  | .astore k => match st with
    | v :: rest => if len = 2 ∧ v.isRef = true then (own_put ls k v).map fun l => (pc + 2, l, rest) else none
    | _ => none
  | .goto o => if len = 3 then (own_jmp pc o).map fun q => (q, ls, st) else none
  | .ifCond cd o => match st with
    | v :: rest => match own_dec1 O cd v with
      | some true => if len = 3 then (own_jmp pc o).map fun q => (q, ls, rest) else none
      | some false => if len = 3 then some (pc + 3, ls, rest) else none
      | none => none
    | _ => none
  | .if_icmp cd o => match st with
    | y :: x :: rest => match own_dec2 O cd x y with
      | some true => if len = 3 then (own_jmp pc o).map fun q => (q, ls, rest) else none
      | some false => if len = 3 then some (pc + 3, ls, rest) else none
      | none => none
    | _ => none
  | .if_acmp cd o => match st with
    | y :: x :: rest => match own_same N x y with
      | some b => if len = 3 ∧ 0 ≤ (pc : Int) + o then some (if acV cd b = true then ((pc : Int) + o).toNat else pc + 3, ls, rest) else none
      | none => none
    | _ => none
  | .ifnull o => match st with
    | .null :: rest => if len = 3 then (own_jmp pc o).map fun q => (q, ls, rest) else none
    | .ref _ :: rest => if len = 3 then some (pc + 3, ls, rest) else none
    | _ => none
  | .ifnonnull o => match st with
    | .ref _ :: rest => if len = 3 then (own_jmp pc o).map fun q => (q, ls, rest) else none
    | .null :: rest => if len = 3 then some (pc + 3, ls, rest) else none
    | _ => none
  | .tableswitch dflt low high offs => match st with
    | .int x :: rest => if x.toInt < low ∨ x.toInt > high then (own_jmp pc dflt).map fun q => (q, ls, rest) else match offs[(x.toInt - low).toNat]? with
      | some o => (own_jmp pc o).map fun q => (q, ls, rest)
      | none => none
    | _ => none
  | _ => none
def own_look {α : Type} : List (Nat × α) → Nat → Option α
  | [], _ => none
  | q :: r, n => if q.1 = n then some q.2 else own_look r n
theorem own_look_mem {α : Type} : ∀ {L : List (Nat × α)} {n : Nat} {a : α}, own_look L n = some a → (n, a) ∈ L
  | [], _, _, h => by cases h
  | q :: r, n, a, h => by
    unfold own_look at h
    split at h
    · rename_i hq; cases h; subst hq; exact List.mem_cons_self
    · exact List.mem_cons_of_mem _ (own_look_mem h)
abbrev own_Hook := List Slot → List Value → Option (Nat × List Value)
def own_retOk (ret : Option FieldType) (i : Instr) (len : Nat) (v : Value) : Bool :=
  match ret, i, v with
  | some t, .ireturn, .int z => decide (len = 1) && decide (narrow t (.int z) = .int z) && (decide (t = .int) || decide (t = .boolean) || decide (t = .byte) || decide (t = .char) || decide (t = .short))
  | some t, .ireturn, .retAddr _ => decide (len = 1) && decide (t = .int)
  | some t, .lreturn, .long _ => decide (len = 1) && decide (t = .long)
  | some t, .lreturn, .double _ => decide (len = 1) && decide (t = .long)
  | some t, .areturn, .ref _ => decide (len = 1) && t.isReference
  | some t, .areturn, .null => decide (len = 1) && t.isReference
  | _, _, _ => false
def own_run (N : Nat) (O : Jvm.ClassFile.Cond → Nat → Int32 → Option Bool) (code : ByteArray) (hooks : List (Nat × own_Hook)) (ret : Option FieldType) : Nat → Nat → List Slot → List Value → Option Value
  | 0, _, _, _ => none
  | n + 1, pc, ls, st => match own_look hooks pc with
    | some F => match F ls st with
      | some q => own_run N O code hooks ret n q.1 ls q.2
      | none => none
    | none => match decode code pc with
      | .ok (i, len) => match st with
        | v :: rest => if own_retOk ret i len v = true then some v else match own_step N O i len pc ls st with
          | some q => own_run N O code hooks ret n q.1 q.2.1 q.2.2
          | none => none
        | [] => match own_step N O i len pc ls [] with
          | some q => own_run N O code hooks ret n q.1 q.2.1 q.2.2
          | none => none
      | .error _ => none
def own_entry (maxL : Nat) (as : List Value) : List Slot :=
  let f := as.flatMap fun v => if v.category = 2 then [.val v, .second] else [.val v]
  f ++ List.replicate (maxL - f.length) .unset
end OwnMachine
section OwnSound
variable {ρ : Nat → Addr} {σ : Nat → Int32} {τ : Nat → Int64}
theorem own_cat (v : Value) : (own_val ρ σ τ v).category = v.category := by cases v <;> rfl
theorem own_isRef {v : Value} (h : v.isRef = true) : (own_val ρ σ τ v).isRef = true := by cases v <;> simp_all [Value.isRef, own_val]
theorem own_int {v : Value} (h : own_isI v = true) : ∃ z, own_val ρ σ τ v = .int z := by cases v <;> simp_all [own_isI, own_val]
theorem own_long {v : Value} (h : own_isL v = true) : ∃ z, own_val ρ σ τ v = .long z := by cases v <;> simp_all [own_isL, own_val]
abbrev own_ls (ρ : Nat → Addr) (σ : Nat → Int32) (τ : Nat → Int64) (ls : List Slot) : Array Slot := (ls.map (own_slot ρ σ τ)).toArray
abbrev own_st (ρ : Nat → Addr) (σ : Nat → Int32) (τ : Nat → Int64) (st : List Value) : List Value := st.map (own_val ρ σ τ)
theorem own_get {ls : List Slot} {k : Nat} {v : Value} (h : ls[k]? = some (.val v)) : (own_ls ρ σ τ ls)[k]? = some (.val (own_val ρ σ τ v)) := by
  simp [own_ls, h, own_slot]
theorem own_put_ok {ls ls' : List Slot} {k : Nat} {v : Value} (h : own_put ls k v = some ls') : storeLocals (own_ls ρ σ τ ls) k (own_val ρ σ τ v) = some (own_ls ρ σ τ ls') := by
  unfold own_put at h
  split at h
  · rename_i hv
    have hv' : (own_val ρ σ τ v).category = 1 := by rw [own_cat]; exact hv
    have key : ∀ o : Slot, ls[k]? = some o → (o = .unset ∨ ∃ w, o = .val w ∧ w.category = 1) → some (ls.set k (.val v)) = some ls' → storeLocals (own_ls ρ σ τ ls) k (own_val ρ σ τ v) = some (own_ls ρ σ τ ls') := by
      intro o ho hc he
      cases he
      have h1 : (own_ls ρ σ τ ls)[k]? = some (own_slot ρ σ τ o) := by simp [own_ls, ho]
      rw [XS.store1 h1 ?_ hv']
      · simp [own_ls, own_slot]
      · rcases hc with rfl | ⟨w, rfl, hw⟩
        · exact Or.inl rfl
        · exact Or.inr ⟨_, rfl, by rw [own_cat]; exact hw⟩
    split at h
    · rename_i ho; exact key _ ho (Or.inl rfl) h
    · rename_i w ho
      split at h
      · rename_i hw; exact key _ ho (Or.inr ⟨w, rfl, hw⟩) h
      · cases h
    · cases h
  · cases h
theorem own_put_len {ls ls' : List Slot} {k : Nat} {v : Value} (h : own_put ls k v = some ls') : ls'.length = ls.length := by
  unfold own_put at h
  split at h
  · split at h
    · cases h; simp
    · split at h
      · cases h; simp
      · cases h
    · cases h
  · cases h
theorem own_same_ok {N : Nat} (hinj : ∀ a b, a < N → b < N → ρ a = ρ b → a = b) {x y : Value} {b : Bool} (h : own_same N x y = some b) :
    (own_val ρ σ τ x).isRef = true ∧ (own_val ρ σ τ y).isRef = true ∧ decide (own_val ρ σ τ x = own_val ρ σ τ y) = b := by
  unfold own_same at h
  split at h
  · rename_i a b'
    split at h
    · rename_i hN
      cases h
      refine ⟨rfl, rfl, ?_⟩
      by_cases q : a = b'
      · subst q; simp
      · have : ρ a ≠ ρ b' := fun e => q (hinj _ _ hN.1 hN.2 e)
        simp [own_val, q, this]
    · cases h
  · cases h; exact ⟨rfl, rfl, by simp⟩
  · cases h; exact ⟨rfl, rfl, by simp [own_val]⟩
  · cases h; exact ⟨rfl, rfl, by simp [own_val]⟩
  · cases h
theorem own_dec1_ok {O : Jvm.ClassFile.Cond → Nat → Int32 → Option Bool} (hO : ∀ cd n z b, O cd n z = some b → if_icmp.holds cd (σ n) z = b) {cd : Jvm.ClassFile.Cond} {v : Value} {b : Bool} (h : own_dec1 O cd v = some b) : ∃ z, own_val ρ σ τ v = .int z ∧ ifCond.holds cd z = b := by
  unfold own_dec1 at h
  split at h
  · cases h; exact ⟨_, rfl, rfl⟩
  · rename_i n
    have q := hO _ _ _ _ h
    exact ⟨σ n, rfl, by rw [← q]; cases cd <;> rfl⟩
  · cases h
theorem own_dec2_ok {O : Jvm.ClassFile.Cond → Nat → Int32 → Option Bool} (hO : ∀ cd n z b, O cd n z = some b → if_icmp.holds cd (σ n) z = b) {cd : Jvm.ClassFile.Cond} {v w : Value} {b : Bool} (h : own_dec2 O cd v w = some b) : ∃ z z', own_val ρ σ τ v = .int z ∧ own_val ρ σ τ w = .int z' ∧ if_icmp.holds cd z z' = b := by
  unfold own_dec2 at h
  split at h
  · cases h; exact ⟨_, _, rfl, rfl, rfl⟩
  · exact ⟨_, _, rfl, rfl, hO _ _ _ _ h⟩
  · cases h
theorem own_jmp_ok {pc q : Nat} {o : Int} (h : own_jmp pc o = some q) : 0 ≤ (pc : Int) + o ∧ ((pc : Int) + o).toNat = q := by
  unfold own_jmp at h
  split at h
  · rename_i hp; cases h; exact ⟨hp, rfl⟩
  · cases h
variable {p : Program} {l : Launch} {e : Env} {R : Room} {s : State} {m : MethodId} {args : Array Value} {below : List Frame} {meth : Method} {c : Code} {T : State} {locs : List Loc} {cells slots : Nat}
theorem own_step_ok {N : Nat} {O : Jvm.ClassFile.Cond → Nat → Int32 → Option Bool} (hinj : ∀ a b, a < N → b < N → ρ a = ρ b → a = b) (hO : ∀ cd n z b, O cd n z = some b → if_icmp.holds cd (σ n) z = b) (X : Stand p l e R s m args below meth c T locs cells slots) (hx : p.tables.exec = Jvm.exec) {i : Instr} {len pc pc' : Nat} {ls ls' : List Slot} {st st' : List Value} (hd : decode c.code pc = .ok (i, len)) (h : own_step N O i len pc ls st = some (pc', ls', st')) :
    ls'.length = ls.length ∧ ∀ target, Steps p.tables e below (T.setTop (mkF m pc' (own_ls ρ σ τ ls') (own_st ρ σ τ st'))) target → Steps p.tables e below (T.setTop (mkF m pc (own_ls ρ σ τ ls) (own_st ρ σ τ st))) target := by
  unfold own_step at h
  split at h
  · -- aload_n
    split at h
    · rename_i v hv
      split at h
      · rename_i hc; obtain ⟨rfl, hr⟩ := hc; cases h
        exact ⟨rfl, fun target k => XS.aloadN X.here hx rfl hd (own_get hv) (own_isRef hr) k⟩
      · cases h
    · cases h
  · split at h
    · rename_i v hv
      split at h
      · rename_i hc; obtain ⟨rfl, hr⟩ := hc; cases h
        exact ⟨rfl, fun target k => XS.aload X.here hx rfl hd (own_get hv) (own_isRef hr) k⟩
      · cases h
    · cases h
  · split at h
    · rename_i v hv
      split at h
      · rename_i hc; obtain ⟨rfl, hr⟩ := hc; cases h
        obtain ⟨z, hz⟩ := own_int (ρ := ρ) (σ := σ) (τ := τ) hr
        exact ⟨rfl, fun target k => XS.iloadN X.here hx rfl hd (hz ▸ own_get hv) (by rw [← hz]; exact k)⟩
      · cases h
    · cases h
  · split at h
    · rename_i v hv
      split at h
      · rename_i hc; obtain ⟨rfl, hr⟩ := hc; cases h
        obtain ⟨z, hz⟩ := own_int (ρ := ρ) (σ := σ) (τ := τ) hr
        exact ⟨rfl, fun target k => XS.iload X.here hx rfl hd (hz ▸ own_get hv) (by rw [← hz]; exact k)⟩
      · cases h
    · cases h
  · split at h
    · rename_i v hv
      split at h
      · rename_i hc; obtain ⟨rfl, hr⟩ := hc; cases h
        obtain ⟨z, hz⟩ := own_long (ρ := ρ) (σ := σ) (τ := τ) hr
        exact ⟨rfl, fun target k => XS.lloadN X.here hx rfl hd (hz ▸ own_get hv) (by rw [← hz]; exact k)⟩
      · cases h
    · cases h
  · split at h
    · rename_i v hv
      split at h
      · rename_i hc; obtain ⟨rfl, hr⟩ := hc; cases h
        obtain ⟨z, hz⟩ := own_long (ρ := ρ) (σ := σ) (τ := τ) hr
        exact ⟨rfl, fun target k => XS.lload X.here hx rfl hd (hz ▸ own_get hv) (by rw [← hz]; exact k)⟩
      · cases h
    · cases h
  · -- iconst
    split at h
    · rename_i hc; subst hc; cases h
      exact ⟨rfl, fun target k => XS.iconst X.here hx rfl hd k⟩
    · cases h
  · split at h
    · rename_i hc; subst hc; cases h
      exact ⟨rfl, fun target k => XS.bipush X.here hx rfl hd k⟩
    · cases h
  · split at h
    · rename_i hc; subst hc; cases h
      exact ⟨rfl, fun target k => XS.sipush X.here hx rfl hd k⟩
    · cases h
  · split at h
    · rename_i hc; subst hc; cases h
      exact ⟨rfl, fun target k => XS.aconstNull X.here hx rfl hd k⟩
    · cases h
  · -- iadd
    split at h
    · split at h
      · rename_i hc; subst hc; cases h
        exact ⟨rfl, fun target k => XS.iadd X.here hx rfl hd rfl k⟩
      · cases h
    · cases h
  · split at h
    · split at h
      · rename_i hc; subst hc; cases h
        exact ⟨rfl, fun target k => XS.isub X.here hx rfl hd rfl k⟩
      · cases h
    · cases h
  · split at h
    · split at h
      · rename_i hc; subst hc; cases h
        exact ⟨rfl, fun target k => XS.iand X.here hx rfl hd rfl k⟩
      · cases h
    · cases h
  · split at h
    · split at h
      · rename_i hc; obtain ⟨rfl, hy⟩ := hc; cases h
        exact ⟨rfl, fun target k => iremM X hx rfl hd rfl hy k⟩
      · cases h
    · cases h
  · split at h
    · split at h
      · rename_i hc; subst hc; cases h
        exact ⟨rfl, fun target k => XS.imul X.here hx rfl hd rfl k⟩
      · cases h
    · cases h
  · split at h
    · split at h
      · rename_i hc; subst hc; cases h
        exact ⟨rfl, fun target k => XT.ior X.here hx rfl hd rfl k⟩
      · cases h
    · cases h
  · split at h
    · split at h
      · rename_i hc; subst hc; cases h
        exact ⟨rfl, fun target k => XT.ixor X.here hx rfl hd rfl k⟩
      · cases h
    · cases h
  · split at h
    · split at h
      · rename_i hc; subst hc; cases h
        exact ⟨rfl, fun target k => XT.ishr X.here hx rfl hd rfl k⟩
      · cases h
    · cases h
  · split at h
    · split at h
      · rename_i hc; subst hc; cases h
        exact ⟨rfl, fun target k => XT.iushr X.here hx rfl hd rfl k⟩
      · cases h
    · cases h
  · split at h
    · split at h
      · rename_i hc; subst hc; cases h
        exact ⟨rfl, fun target k => XT.ladd X.here hx rfl hd rfl k⟩
      · cases h
    · cases h
  · split at h
    · split at h
      · rename_i hc; subst hc; cases h
        exact ⟨rfl, fun target k => XT.lsub X.here hx rfl hd rfl k⟩
      · cases h
    · cases h
  · split at h
    · split at h
      · rename_i hc; subst hc; cases h
        exact ⟨rfl, fun target k => XT.lmul X.here hx rfl hd rfl k⟩
      · cases h
    · cases h
  · split at h
    · split at h
      · rename_i hc; obtain ⟨rfl, hy⟩ := hc; cases h
        exact ⟨rfl, fun target k => XT.ldiv X.here hx rfl hd rfl hy k⟩
      · cases h
    · cases h
  · split at h
    · split at h
      · rename_i hc; subst hc; cases h
        exact ⟨rfl, fun target k => XT.lcmp X.here hx rfl hd rfl k⟩
      · cases h
    · cases h
  · split at h
    · split at h
      · rename_i hc; subst hc; cases h
        exact ⟨rfl, fun target k => XT.i2l X.here hx rfl hd rfl k⟩
      · cases h
    · cases h
  · split at h
    · split at h
      · rename_i hc; subst hc; cases h
        exact ⟨rfl, fun target k => XT.l2i X.here hx rfl hd rfl k⟩
      · cases h
    · cases h
  · split at h
    · split at h
      · rename_i hc; subst hc; cases h
        exact ⟨rfl, fun target k => XT.lneg X.here hx rfl hd rfl k⟩
      · cases h
    · cases h
  · split at h
    · split at h
      · rename_i hc; subst hc; cases h
        exact ⟨rfl, fun target k => XT.i2b X.here hx rfl hd rfl k⟩
      · cases h
    · cases h
  · split at h
    · rename_i hc; subst hc; cases h
      exact ⟨rfl, fun target k => XT.lconst X.here hx rfl hd k⟩
    · cases h
  · split at h
    · rename_i v hv
      split at h
      · rename_i hc; subst hc
        obtain ⟨l2, h2, h3⟩ := Option.map_eq_some_iff.mp h
        cases h3
        exact ⟨own_put_len h2, fun target k => XS.iinc X.here hx rfl hd (own_get hv) (own_put_ok (ρ := ρ) (σ := σ) (τ := τ) h2) k⟩
      · cases h
    · cases h
  · -- dup
    split at h
    · split at h
      · rename_i hc; obtain ⟨rfl, hy⟩ := hc; cases h
        exact ⟨rfl, fun target k => XS.dup X.here hx rfl hd rfl (by rw [own_cat]; exact hy) k⟩
      · cases h
    · cases h
  · split at h
    · split at h
      · rename_i hc; obtain ⟨rfl, hy⟩ := hc; cases h
        exact ⟨rfl, fun target k => XS.pop X.here hx rfl hd rfl (by rw [own_cat]; exact hy) k⟩
      · cases h
    · cases h
  · -- istore_n
    split at h
    · split at h
      · rename_i hc; obtain ⟨rfl, hr⟩ := hc
        obtain ⟨l2, h2, h3⟩ := Option.map_eq_some_iff.mp h
        cases h3
        obtain ⟨z, hz⟩ := own_int (ρ := ρ) (σ := σ) (τ := τ) hr
        exact ⟨own_put_len h2, fun target k => XS.istoreN X.here hx rfl hd (by show own_val ρ σ τ _ :: _ = _; rw [hz]) (hz ▸ own_put_ok h2) k⟩
      · cases h
    · cases h
  · split at h
    · split at h
      · rename_i hc; obtain ⟨rfl, hr⟩ := hc
        obtain ⟨l2, h2, h3⟩ := Option.map_eq_some_iff.mp h
        cases h3
        obtain ⟨z, hz⟩ := own_int (ρ := ρ) (σ := σ) (τ := τ) hr
        exact ⟨own_put_len h2, fun target k => XS.istore X.here hx rfl hd (by show own_val ρ σ τ _ :: _ = _; rw [hz]) (hz ▸ own_put_ok h2) k⟩
      · cases h
    · cases h
  · split at h
    · split at h
      · rename_i hc; obtain ⟨rfl, hr⟩ := hc
        obtain ⟨l2, h2, h3⟩ := Option.map_eq_some_iff.mp h
        cases h3
        exact ⟨own_put_len h2, fun target k => XS.astoreN X.here hx rfl hd rfl (own_isRef hr) (own_put_ok h2) k⟩
      · cases h
    · cases h
  · split at h
    · split at h
      · rename_i hc; obtain ⟨rfl, hr⟩ := hc
        obtain ⟨l2, h2, h3⟩ := Option.map_eq_some_iff.mp h
        cases h3
        exact ⟨own_put_len h2, fun target k => XS.astore X.here hx rfl hd rfl (own_isRef hr) (own_put_ok h2) k⟩
      · cases h
    · cases h
  · -- goto
    split at h
    · rename_i hc; subst hc
      obtain ⟨q, h2, h3⟩ := Option.map_eq_some_iff.mp h
      cases h3
      obtain ⟨j1, j2⟩ := own_jmp_ok h2
      exact ⟨rfl, fun target k => XS.goto X.here hx rfl rfl hd j1 j2 k⟩
    · cases h
  · -- ifCond
    split at h
    · split at h
      · rename_i hb
        obtain ⟨z, hz, hq⟩ := own_dec1_ok (ρ := ρ) (τ := τ) hO hb
        split at h
        · rename_i hc; subst hc
          obtain ⟨q, h2, h3⟩ := Option.map_eq_some_iff.mp h
          cases h3
          obtain ⟨j1, j2⟩ := own_jmp_ok h2
          exact ⟨rfl, fun target k => XS.ifYes X.here hx rfl rfl hd (by show own_val ρ σ τ _ :: _ = _; rw [hz]) hq j1 j2 k⟩
        · cases h
      · rename_i hb
        obtain ⟨z, hz, hq⟩ := own_dec1_ok (ρ := ρ) (τ := τ) hO hb
        split at h
        · rename_i hc; subst hc; cases h
          exact ⟨rfl, fun target k => XS.ifNo X.here hx rfl hd (by show own_val ρ σ τ _ :: _ = _; rw [hz]) hq k⟩
        · cases h
      · cases h
    · cases h
  · split at h
    · split at h
      · rename_i hb
        obtain ⟨z, z', hz, hz', hq⟩ := own_dec2_ok (ρ := ρ) (τ := τ) hO hb
        split at h
        · rename_i hc; subst hc
          obtain ⟨q, h2, h3⟩ := Option.map_eq_some_iff.mp h
          cases h3
          obtain ⟨j1, j2⟩ := own_jmp_ok h2
          exact ⟨rfl, fun target k => XS.icmpYes X.here hx rfl rfl hd (by show own_val ρ σ τ _ :: own_val ρ σ τ _ :: _ = _; rw [hz, hz']) hq j1 j2 k⟩
        · cases h
      · rename_i hb
        obtain ⟨z, z', hz, hz', hq⟩ := own_dec2_ok (ρ := ρ) (τ := τ) hO hb
        split at h
        · rename_i hc; subst hc; cases h
          exact ⟨rfl, fun target k => XS.icmpNo X.here hx rfl hd (by show own_val ρ σ τ _ :: own_val ρ σ τ _ :: _ = _; rw [hz, hz']) hq k⟩
        · cases h
      · cases h
    · cases h
  · -- if_acmp
    split at h
    · split at h
      · rename_i b hb
        split at h
        · rename_i hc; obtain ⟨rfl, hj⟩ := hc; cases h
          obtain ⟨r1, r2, r3⟩ := own_same_ok (σ := σ) (τ := τ) hinj hb
          exact ⟨rfl, fun target k => acmp X hx rfl r1 r2 rfl hd rfl r3 hj rfl k⟩
        · cases h
      · cases h
    · cases h
  · -- ifnull
    split at h
    · split at h
      · rename_i hc; subst hc
        obtain ⟨q, h2, h3⟩ := Option.map_eq_some_iff.mp h
        cases h3
        obtain ⟨j1, j2⟩ := own_jmp_ok h2
        exact ⟨rfl, fun target k => XS.ifnullYes X.here hx rfl rfl hd rfl j1 j2 k⟩
      · cases h
    · split at h
      · rename_i hc; subst hc; cases h
        exact ⟨rfl, fun target k => XS.ifnullNo X.here hx rfl hd rfl k⟩
      · cases h
    · cases h
  · split at h
    · split at h
      · rename_i hc; subst hc
        obtain ⟨q, h2, h3⟩ := Option.map_eq_some_iff.mp h
        cases h3
        obtain ⟨j1, j2⟩ := own_jmp_ok h2
        exact ⟨rfl, fun target k => XS.ifnonnullYes X.here hx rfl rfl hd rfl j1 j2 k⟩
      · cases h
    · split at h
      · rename_i hc; subst hc; cases h
        exact ⟨rfl, fun target k => XS.ifnonnullNo X.here hx rfl hd rfl k⟩
      · cases h
    · cases h
  · -- tableswitch
    split at h
    · split at h
      · rename_i ho
        obtain ⟨q, h2, h3⟩ := Option.map_eq_some_iff.mp h
        cases h3
        obtain ⟨j1, j2⟩ := own_jmp_ok h2
        exact ⟨rfl, fun target k => XS.tswOut X.here hx rfl rfl hd rfl ho j1 j2 k⟩
      · rename_i hin
        split at h
        · rename_i o ho
          obtain ⟨q, h2, h3⟩ := Option.map_eq_some_iff.mp h
          cases h3
          obtain ⟨j1, j2⟩ := own_jmp_ok h2
          exact ⟨rfl, fun target k => XS.tswIn X.here hx rfl rfl hd rfl hin ho j1 j2 k⟩
        · cases h
    · cases h
  · cases h
def own_Goes (p : Program) (l : Launch) (e : Env) (R : Room) (s : State) (m : MethodId) (args : Array Value) (below : List Frame) (meth : Method) (c : Code) (locs : List Loc) (cells slots : Nat) (h : Heap) (f f' : JFrame) : Prop :=
  ∀ T, Stand p l e R s m args below meth c T locs cells slots → T.heap = h → ∃ T', Stand p l e R s m args below meth c T' locs cells slots ∧ T'.heap = h ∧ ∀ target, Steps p.tables e below (T'.setTop f') target → Steps p.tables e below (T.setTop f) target
theorem own_Goes.trans {h : Heap} {f f' f'' : JFrame} (a : own_Goes p l e R s m args below meth c locs cells slots h f f') (b : own_Goes p l e R s m args below meth c locs cells slots h f' f'') : own_Goes p l e R s m args below meth c locs cells slots h f f'' := by
  intro T X eT
  obtain ⟨T1, X1, e1, k1⟩ := a T X eT
  obtain ⟨T2, X2, e2, k2⟩ := b T1 X1 e1
  exact ⟨T2, X2, e2, fun t k => k1 t (k2 t k)⟩
theorem own_ret_ok (X : Stand p l e R s m args below meth c T locs cells slots) (hx : p.tables.exec = Jvm.exec) {ret : Option FieldType} (hret : meth.sig.returnType = ret) {i : Instr} {len pc : Nat} {Ls : Array Slot} {v : Value} {rest : List Value} (hd : decode c.code pc = .ok (i, len)) (h : own_retOk ret i len v = true) {fs : List Frame}
    (hl : ∀ (f : JFrame) (acts : List Action), f.method = m → f.locked = none → f.entered = [] → (doReturn e (T.setTop f) acts (some (own_val ρ σ τ v))).1 = T.setFrames fs) :
    Steps p.tables e below (T.setTop (mkF m pc Ls (own_val ρ σ τ v :: rest))) (T.setFrames fs) := by
  unfold own_retOk at h
  split at h
  · simp only [Bool.and_eq_true, Bool.or_eq_true, decide_eq_true_eq] at h
    obtain ⟨⟨rfl, hn⟩, ht⟩ := h
    exact retOut X hx hret hn (Or.inl ⟨rfl, by rcases ht with (((h | h) | h) | h) | h <;> simp [h], _, rfl⟩) hd hl
  · simp only [Bool.and_eq_true, decide_eq_true_eq] at h
    obtain ⟨rfl, rfl⟩ := h
    exact retOut X hx hret rfl (Or.inl ⟨rfl, Or.inl rfl, _, rfl⟩) hd hl
  · simp only [Bool.and_eq_true, decide_eq_true_eq] at h
    obtain ⟨rfl, rfl⟩ := h
    exact retOut X hx hret rfl (Or.inr (Or.inl ⟨rfl, rfl, _, rfl⟩)) hd hl
  · simp only [Bool.and_eq_true, decide_eq_true_eq] at h
    obtain ⟨rfl, rfl⟩ := h
    exact retOut X hx hret rfl (Or.inr (Or.inl ⟨rfl, rfl, _, rfl⟩)) hd hl
  · simp only [Bool.and_eq_true, decide_eq_true_eq] at h
    obtain ⟨rfl, ht⟩ := h
    refine retOut X hx hret ?_ (Or.inr (Or.inr (Or.inr (Or.inr ⟨rfl, ht, rfl⟩)))) hd hl
    rename_i t a
    cases t <;> first | rfl | cases ht
  · simp only [Bool.and_eq_true, decide_eq_true_eq] at h
    obtain ⟨rfl, ht⟩ := h
    refine retOut X hx hret ?_ (Or.inr (Or.inr (Or.inr (Or.inr ⟨rfl, ht, rfl⟩)))) hd hl
    rename_i t
    cases t <;> first | rfl | cases ht
  · cases h
/-- the machine's run is the JVM's -/
theorem own_run_ok {N : Nat} {O : Jvm.ClassFile.Cond → Nat → Int32 → Option Bool} (hinj : ∀ a b, a < N → b < N → ρ a = ρ b → a = b) (hO : ∀ cd n z b, O cd n z = some b → if_icmp.holds cd (σ n) z = b) (hx : p.tables.exec = Jvm.exec) {code : ByteArray} (hby : c.code = code) {ret : Option FieldType} (hret : meth.sig.returnType = ret) {h : Heap} {hooks : List (Nat × own_Hook)}
    (hok : ∀ q ∈ hooks, ∀ ls st r, ls.length = c.maxLocals → q.2 ls st = some r → own_Goes p l e R s m args below meth c locs cells slots h (mkF m q.1 (own_ls ρ σ τ ls) (own_st ρ σ τ st)) (mkF m r.1 (own_ls ρ σ τ ls) (own_st ρ σ τ r.2))) :
    ∀ (n pc : Nat) (ls : List Slot) (st : List Value) (v : Value), own_run N O code hooks ret n pc ls st = some v → ls.length = c.maxLocals → ∀ T, Stand p l e R s m args below meth c T locs cells slots → T.heap = h →
      ∃ T', Stand p l e R s m args below meth c T' locs cells slots ∧ T'.heap = h ∧ ∀ fs, (∀ (f : JFrame) (acts : List Action), f.method = m → f.locked = none → f.entered = [] → (doReturn e (T'.setTop f) acts (some (own_val ρ σ τ v))).1 = T'.setFrames fs) →
        Steps p.tables e below (T.setTop (mkF m pc (own_ls ρ σ τ ls) (own_st ρ σ τ st))) (T'.setFrames fs)
  | 0, _, _, _, _, h, _, _, _, _ => by cases h
  | n + 1, pc, ls, st, v, hr, hl, T, X, eT => by
    unfold own_run at hr
    split at hr
    · rename_i F hF
      split at hr
      · rename_i q hq
        obtain ⟨T1, X1, e1, k1⟩ := hok _ (own_look_mem hF) ls st q hl hq T X eT
        obtain ⟨T2, X2, e2, k2⟩ := own_run_ok hinj hO hx hby hret hok n q.1 ls q.2 v hr hl T1 X1 e1
        exact ⟨T2, X2, e2, fun fs hfs => k1 _ (k2 fs hfs)⟩
      · cases hr
    · split at hr
      · rename_i i len hd
        have hd' : decode c.code pc = .ok (i, len) := hb hby hd
        have go : ∀ q, own_step N O i len pc ls st = some q → own_run N O code hooks ret n q.1 q.2.1 q.2.2 = some v → ∃ T', Stand p l e R s m args below meth c T' locs cells slots ∧ T'.heap = h ∧ ∀ fs, (∀ (f : JFrame) (acts : List Action), f.method = m → f.locked = none → f.entered = [] → (doReturn e (T'.setTop f) acts (some (own_val ρ σ τ v))).1 = T'.setFrames fs) →
            Steps p.tables e below (T.setTop (mkF m pc (own_ls ρ σ τ ls) (own_st ρ σ τ st))) (T'.setFrames fs) := fun q hq hr' => by
          obtain ⟨pc', ls', st'⟩ := q
          obtain ⟨l1, k1⟩ := own_step_ok (ρ := ρ) (σ := σ) (τ := τ) hinj hO X hx hd' hq
          obtain ⟨T2, X2, e2, k2⟩ := own_run_ok hinj hO hx hby hret hok n pc' ls' st' v hr' (l1.trans hl) T X eT
          exact ⟨T2, X2, e2, fun fs hfs => k1 _ (k2 fs hfs)⟩
        split at hr
        · split at hr
          · rename_i ho
            cases hr
            exact ⟨T, X, eT, fun fs hfs => own_ret_ok X hx hret hd' ho hfs⟩
          · split at hr
            · rename_i q hq; exact go q hq hr
            · cases hr
        · split at hr
          · rename_i q hq; exact go q hq hr
          · cases hr
      · cases hr
end OwnSound
section OwnHooks
variable {ρ : Nat → Addr} {σ : Nat → Int32} {τ : Nat → Int64} {Z : State} {a0 : Array Value} {h : Heap}
variable {p : Program} {l : Launch} {e : Env} {R : Room} {s : State} {m : MethodId} {args : Array Value} {below : List Frame} {meth : Method} {c : Code}
/-- a hook is true of the JVM -/
def own_HookOk (ρ : Nat → Addr) (σ : Nat → Int32) (τ : Nat → Int64) (p : Program) (l : Launch) (e : Env) (R : Room) (s : State) (m : MethodId) (args : Array Value) (below : List Frame) (meth : Method) (c : Code) (h : Heap) (q : Nat × own_Hook) : Prop :=
  ∀ ls st r, ls.length = c.maxLocals → q.2 ls st = some r → own_Goes p l e R s m args below meth c [] 0 0 h (mkF m q.1 (own_ls ρ σ τ ls) (own_st ρ σ τ st)) (mkF m r.1 (own_ls ρ σ τ ls) (own_st ρ σ τ r.2))
theorem own_pure {f f' : JFrame} (k : ∀ T, Stand p l e R s m args below meth c T [] 0 0 → ∀ target, Steps p.tables e below (T.setTop f') target → Steps p.tables e below (T.setTop f) target) : own_Goes p l e R s m args below meth c [] 0 0 h f f' := fun T X eT => ⟨T, X, eT, k T X⟩
/-- getstatic -/
def own_hS (pc : Nat) (v : Value) : Nat × own_Hook := (pc, fun _ st => some (pc + 3, v :: st))
theorem own_hS_ok (hx : p.tables.exec = Jvm.exec) (hZ : Z.Warmed39 s.vm) {own C n d : String} {index pc : Nat} (hown : s.vm.findClass own = some m.cls) (w : (Cond.fieldLink own index C n d).before a0 Z = true) {v : Value} (F : Sta Z h C n d (own_val ρ σ τ v)) (hd : decode c.code pc = .ok (.getstatic index, 3)) :
    own_HookOk ρ σ τ p l e R s m args below meth c h (own_hS pc v) := by
  intro ls st r hl hr T X eT
  cases hr
  exact getS (host := "") X hx hZ hown w Via.refl eT F (g := mkF m pc (own_ls ρ σ τ ls) (own_st ρ σ τ st)) rfl hd
/-- ldc of an int -/
def own_hK (pc : Nat) (z : Int32) : Nat × own_Hook := (pc, fun _ st => some (pc + 2, .int z :: st))
theorem own_hK_ok (hx : p.tables.exec = Jvm.exec) (hZ : Z.Warmed39 s.vm) {own : String} {index pc : Nat} {z : Int32} (hown : s.vm.findClass own = some m.cls) (w : (Cond.constant own index z).before a0 Z = true) (hd : decode c.code pc = .ok (.ldc index, 2)) :
    own_HookOk ρ σ τ p l e R s m args below meth c h (own_hK pc z) := by
  intro ls st r hl hr
  cases hr
  exact own_pure fun T X => X.ldcInt hx hown (mvT hZ w) (g := mkF m pc (own_ls ρ σ τ ls) (own_st ρ σ τ st)) rfl hd
/-- ldc2_w of a long -/
def own_hL (pc : Nat) (z : Int64) : Nat × own_Hook := (pc, fun _ st => some (pc + 3, .long z :: st))
theorem own_hL_ok (hx : p.tables.exec = Jvm.exec) (hZ : Z.Warmed39 s.vm) {own : String} {index pc : Nat} {z : Int64} (hown : s.vm.findClass own = some m.cls) (w : (Cond.constantLong own index z).before a0 Z = true) (hd : decode c.code pc = .ok (.ldc2_w index, 3)) :
    own_HookOk ρ σ τ p l e R s m args below meth c h (own_hL pc z) := by
  intro ls st r hl hr
  cases hr
  exact own_pure fun T X => X.ldc2Long hx hown (mvT hZ w) (g := mkF m pc (own_ls ρ σ τ ls) (own_st ρ σ τ st)) rfl hd
/-- aaload of a known array of n components, the i-th being the i-th token -/
def own_hA (pc t n : Nat) : Nat × own_Hook := (pc, fun _ st => match st with
  | .int j :: .ref u :: rest => if u = t ∧ ¬ j < 0 ∧ j.toNatClampNeg < n then some (pc + 1, .ref j.toNatClampNeg :: rest) else none
  | _ => none)
theorem own_hA_ok (hx : p.tables.exec = Jvm.exec) (hZ : Z.Warmed39 s.vm) {pc t n : Nat} {C : String} {cl : Cell} (A : Arr Z h (ρ t) cl (.object C)) (hn : cl.slots.size = n) (hv : ∀ i, i < n → cl.slots[i]? = some (.ref (ρ i))) (hd : decode c.code pc = .ok (.aaload, 1)) :
    own_HookOk ρ σ τ p l e R s m args below meth c h (own_hA pc t n) := by
  intro ls st r hl hr T X eT
  unfold own_hA at hr
  simp only at hr
  split at hr
  · rename_i j u rest
    split at hr
    · rename_i hc
      obtain ⟨rfl, h1, h2⟩ := hc
      cases hr
      exact ⟨T, X, eT, fun target k => X.aaload hx (j := j) (by rw [eT]; exact A.1) (State.isArrayOf_alike hZ.alike A.2.1) rfl A.2.2 (fun q => q.elim h1 fun z => by omega) (hv _ h2) (g := mkF m pc (own_ls ρ σ τ ls) (own_st ρ σ τ (.int j :: .ref u :: rest))) rfl rfl hd _ k⟩
    · cases hr
  · cases hr
/-- getfield, of objects that are known -/
def own_hF (pc : Nat) (g : Nat → Option Value) : Nat × own_Hook := (pc, fun _ st => match st with
  | .ref t :: rest => (g t).map fun v => (pc + 3, v :: rest)
  | _ => none)
theorem own_hF_ok (hx : p.tables.exec = Jvm.exec) (hZ : Z.Warmed39 s.vm) {own C n d : String} {index pc : Nat} (hown : s.vm.findClass own = some m.cls) (w : (Cond.fieldLink own index C n d).before a0 Z = true) {g : Nat → Option Value} (F : ∀ t v, g t = some v → Fld Z h (ρ t) C n d (own_val ρ σ τ v)) (hd : decode c.code pc = .ok (.getfield index, 3)) :
    own_HookOk ρ σ τ p l e R s m args below meth c h (own_hF pc g) := by
  intro ls st r hl hr T X eT
  unfold own_hF at hr
  simp only at hr
  split at hr
  · rename_i t rest
    obtain ⟨v, h1, h2⟩ := Option.map_eq_some_iff.mp hr
    cases h2
    exact getF X hx hZ hown (host := "") (Or.inl w) Via.refl eT (F t v h1) (g := mkF m pc (own_ls ρ σ τ ls) (own_st ρ σ τ (.ref t :: rest))) rfl rfl hd
  · cases hr
/-- one step on what lies on the stack, told by its worth: the top `pre` becomes `post` -/
def own_hX (pc : Nat) (pre : List Value) (pc' : Nat) (post : List Value) : Nat × own_Hook := (pc, fun _ st => if st.take pre.length = pre then some (pc', post ++ st.drop pre.length) else none)
theorem own_hX_ok {pc pc' : Nat} {pre post : List Value} (k : ∀ ls rest, own_Goes p l e R s m args below meth c [] 0 0 h (mkF m pc ls (own_st ρ σ τ pre ++ rest)) (mkF m pc' ls (own_st ρ σ τ post ++ rest))) :
    own_HookOk ρ σ τ p l e R s m args below meth c h (own_hX pc pre pc' post) := by
  intro ls st r hl hr
  unfold own_hX at hr
  simp only at hr
  split at hr
  · rename_i hp
    cases hr
    have e1 : own_st ρ σ τ st = own_st ρ σ τ pre ++ own_st ρ σ τ (st.drop pre.length) := by
      rw [← List.map_append]; conv => lhs; rw [← List.take_append_drop pre.length st, hp]
    have e2 : own_st ρ σ τ (post ++ st.drop pre.length) = own_st ρ σ τ post ++ own_st ρ σ τ (st.drop pre.length) := List.map_append
    show own_Goes p l e R s m args below meth c [] 0 0 h (mkF m pc (own_ls ρ σ τ ls) (own_st ρ σ τ st)) (mkF m pc' (own_ls ρ σ τ ls) (own_st ρ σ τ (post ++ st.drop pre.length)))
    rw [e1, e2]
    exact k _ _
  · cases hr
theorem own_iand_ok (hx : p.tables.exec = Jvm.exec) {pc : Nat} {a b z : Value} {x y : Int32} (ha : own_val ρ σ τ a = .int x) (hb : own_val ρ σ τ b = .int y) (hz : own_val ρ σ τ z = .int (x &&& y)) (hd : decode c.code pc = .ok (.iand, 1)) :
    own_HookOk ρ σ τ p l e R s m args below meth c h (own_hX pc [b, a] (pc + 1) [z]) :=
  own_hX_ok fun ls rest => own_pure fun T X target k => XS.iand X.here hx rfl (x := x) (y := y) hd (rest := rest) (by simp [own_st, ha, hb]) (by simpa [own_st, hz] using k)
theorem own_irem_ok (hx : p.tables.exec = Jvm.exec) {pc : Nat} {a b z : Value} {x y : Int32} (ha : own_val ρ σ τ a = .int x) (hb : own_val ρ σ τ b = .int y) (hy : y ≠ 0) (hz : own_val ρ σ τ z = .int (x % y)) (hd : decode c.code pc = .ok (.irem, 1)) :
    own_HookOk ρ σ τ p l e R s m args below meth c h (own_hX pc [b, a] (pc + 1) [z]) :=
  own_hX_ok fun ls rest => own_pure fun T X target k => iremM X hx rfl (x := x) (y := y) hd (rest := rest) (by simp [own_st, ha, hb]) hy (by simpa [own_st, hz] using k)
theorem own_ishr_ok (hx : p.tables.exec = Jvm.exec) {pc : Nat} {a b z : Value} {x y : Int32} (ha : own_val ρ σ τ a = .int x) (hb : own_val ρ σ τ b = .int y) (hz : own_val ρ σ τ z = .int (x >>> (y &&& 31))) (hd : decode c.code pc = .ok (.ishr, 1)) :
    own_HookOk ρ σ τ p l e R s m args below meth c h (own_hX pc [b, a] (pc + 1) [z]) :=
  own_hX_ok fun ls rest => own_pure fun T X target k => XT.ishr X.here hx rfl (x := x) (y := y) hd (rest := rest) (by simp [own_st, ha, hb]) (by simpa [own_st, hz] using k)
theorem own_lcmp_ok (hx : p.tables.exec = Jvm.exec) {pc : Nat} {a b z : Value} {x y : Int64} (ha : own_val ρ σ τ a = .long x) (hb : own_val ρ σ τ b = .long y) (hz : own_val ρ σ τ z = .int (XT.cmpL x y)) (hd : decode c.code pc = .ok (.lcmp, 1)) :
    own_HookOk ρ σ τ p l e R s m args below meth c h (own_hX pc [b, a] (pc + 1) [z]) :=
  own_hX_ok fun ls rest => own_pure fun T X target k => XT.lcmp X.here hx rfl (x := x) (y := y) hd (rest := rest) (by simp [own_st, ha, hb]) (by simpa [own_st, hz] using k)
theorem own_lushr_ok (hx : p.tables.exec = Jvm.exec) {pc : Nat} {a b z : Value} {x : Int64} {y : Int32} (ha : own_val ρ σ τ a = .long x) (hb : own_val ρ σ τ b = .int y) (hz : own_val ρ σ τ z = .long (XT.ushrL x y)) (hd : decode c.code pc = .ok (.lushr, 1)) :
    own_HookOk ρ σ τ p l e R s m args below meth c h (own_hX pc [b, a] (pc + 1) [z]) :=
  own_hX_ok fun ls rest => own_pure fun T X target k => XT.lushr X.here hx rfl (x := x) (y := y) hd (rest := rest) (by simp [own_st, ha, hb]) (by simpa [own_st, hz] using k)
theorem own_l2i_ok (hx : p.tables.exec = Jvm.exec) {pc : Nat} {a z : Value} {x : Int64} (ha : own_val ρ σ τ a = .long x) (hz : own_val ρ σ τ z = .int x.toInt32) (hd : decode c.code pc = .ok (.l2i, 1)) :
    own_HookOk ρ σ τ p l e R s m args below meth c h (own_hX pc [a] (pc + 1) [z]) :=
  own_hX_ok fun ls rest => own_pure fun T X target k => XT.l2i X.here hx rfl (x := x) hd (rest := rest) (by simp [own_st, ha]) (by simpa [own_st, hz] using k)
theorem own_i2l_ok (hx : p.tables.exec = Jvm.exec) {pc : Nat} {a z : Value} {x : Int32} (ha : own_val ρ σ τ a = .int x) (hz : own_val ρ σ τ z = .long x.toInt64) (hd : decode c.code pc = .ok (.i2l, 1)) :
    own_HookOk ρ σ τ p l e R s m args below meth c h (own_hX pc [a] (pc + 1) [z]) :=
  own_hX_ok fun ls rest => own_pure fun T X target k => XT.i2l X.here hx rfl (x := x) hd (rest := rest) (by simp [own_st, ha]) (by simpa [own_st, hz] using k)
/-- what a method's contract says: it returns v, and the heap is as it was -/
abbrev own_Met (Z : State) (h : Heap) (l : Launch) (y : MethodName) (bytes : ByteArray) (maxL : Nat) (ret : Option FieldType) (rm : Room) (as : List Value) (v : Value) : Prop :=
  MetFree l y (head1 [Jvm.Cond.code y bytes maxL ret] rm) (fun a U => a = as.toArray ∧ Z.Warmed39 U.vm ∧ U.heap = h) (fun _ _ _ _ _ => True) (fun _ U o U' => ∃ v' L, o = .returned v' ∧ (v' = some v ∧ L = [] ∧ U'.heap = h) ∧ FrameEnd U o U' L rm.cells rm.slots)
/-- invokestatic by the callee's contract -/
def own_hC (pc n W : Nat) (φ : List Value → Option Value) : Nat × own_Hook := (pc, fun _ st => if n ≤ st.length ∧ ((st.drop n).map fun v => v.category).sum ≤ W then (φ (st.take n).reverse).map fun v => (pc + 3, v :: st.drop n) else none)
theorem own_sum (L : List Value) : ((own_st ρ σ τ L).map fun v => v.category) = L.map fun v => v.category := by simp [own_st, own_cat]
theorem own_hC_ok (hx : p.tables.exec = Jvm.exec) (hZ : Z.Warmed39 s.vm) {own : String} {index pc n W : Nat} (hown : s.vm.findClass own = some m.cls) {y : MethodName} {bytes : ByteArray} {maxL : Nat} {ret : Option FieldType} {rm : Room}
    (wl : (Cond.methodLink own index y).before a0 Z = true) (ws : (Cond.static y).before a0 Z = true) (wi : (Cond.initialized y.cls).before a0 Z = true) (wc : (Cond.code y bytes maxL ret).before a0 Z = true) (hy : y.cls ≠ "java/lang/invoke/MethodHandle" ∧ y.cls ≠ "java/lang/invoke/VarHandle")
    {ps : List FieldType} {rt : Option FieldType} (pd : parseMethodDescriptor y.desc = some ⟨ps, rt⟩) (hn : n = ps.length) (hrc : rm.cells = 0) (hrs : rm.slots = 0) (hfr : rm.frames + 1 ≤ R.frames) (hlo : W + (maxL + 11) + rm.locals ≤ R.locals)
    {φ : List Value → Option Value} (hM : ∀ as v, φ as = some v → own_Met Z h l y bytes maxL ret rm (as.map (own_val ρ σ τ)) (own_val ρ σ τ v)) (hd : decode c.code pc = .ok (.invokestatic index, 3)) :
    own_HookOk ρ σ τ p l e R s m args below meth c h (own_hC pc n W φ) := by
  intro ls st r hl hr T X eT
  unfold own_hC at hr
  simp only at hr
  split at hr
  · rename_i hg
    obtain ⟨v, h1, h2⟩ := Option.map_eq_some_iff.mp hr
    cases h2
    have hlen : ((st.take n).reverse.map (own_val ρ σ τ)).length = ps.length := by simp [hg.1, ← hn]
    have hst : own_st ρ σ τ st = ((st.take n).reverse.map (own_val ρ σ τ)).reverse ++ own_st ρ σ τ (st.drop n) := by
      rw [← List.map_reverse, List.reverse_reverse, ← List.map_append, List.take_append_drop]
    obtain ⟨v', vm1, ⟨T', L', k', n'⟩, hw1, X', ⟨L, ⟨rfl, rfl, hh⟩, q1, q2, q3⟩, stp⟩ := Jvm.LawKit.callS X hx hown (mvT hZ wl) (mvT hZ ws) (mvT hZ wi) (mvT hZ wc) hy (backOf (Q := fun v' h' L => v' = some (own_val ρ σ τ v) ∧ L = [] ∧ h' = h) (W := W) (hM _ _ h1) hZ wc wi hfr hlo)
      (g := mkF m pc (own_ls ρ σ τ ls) (own_st ρ σ τ st)) rfl (by simpa using hl) (argsL := (st.take n).reverse.map (own_val ρ σ τ)) (rest := own_st ρ σ τ (st.drop n)) (lenOf pd hlen) hst (by show 2 * 0 + _ ≤ _; rw [own_sum]; omega) hd (fun _ _ => ⟨rfl, eT, by show 0 + rm.cells ≤ _; rw [hrc]; exact Nat.zero_le _, by show 0 + rm.slots ≤ _; rw [hrs]; exact Nat.zero_le _⟩)
    dsimp only [Pt.U, Pt.locs, Pt.cells, Pt.slots] at X' hh q1 q2 q3 stp
    subst q1 q2 q3
    rw [hrc, hrs] at X'
    exact ⟨T', X', hh, stp⟩
  · cases hr
/-- invokevirtual on an object of the known class by the contract of the method that is selected -/
def own_hV (pc n W N : Nat) (φ : List Value → Option Value) : Nat × own_Hook := (pc, fun _ st => match st.drop n with
  | .ref t :: rest => if t < N ∧ n ≤ st.length ∧ (rest.map fun v => v.category).sum ≤ W then (φ (.ref t :: (st.take n).reverse)).map fun v => (pc + 3, v :: rest) else none
  | _ => none)
theorem own_hV_ok (hx : p.tables.exec = Jvm.exec) (hZ : Z.Warmed39 s.vm) {own C : String} {index pc n W N : Nat} (hown : s.vm.findClass own = some m.cls) {y : MethodName} {bytes : ByteArray} {maxL : Nat} {ret : Option FieldType} {rm : Room}
    (wl : (Cond.methodLink own index y).before a0 Z = true) (wd : (Cond.declares y).before a0 Z = true) (wsel : (Cond.selects C y y).before a0 Z = true) (wm : (Cond.instanceMethod y).before a0 Z = true) (wi : (Cond.initialized y.cls).before a0 Z = true) (wc : (Cond.code y bytes maxL ret).before a0 Z = true) (hy : y.cls ≠ "java/lang/invoke/MethodHandle" ∧ y.cls ≠ "java/lang/invoke/VarHandle")
    (hE : ∀ t, t < N → Exa Z h (ρ t) C)
    {ps : List FieldType} {rt : Option FieldType} (pd : parseMethodDescriptor y.desc = some ⟨ps, rt⟩) (hn : n = ps.length) (hrc : rm.cells = 0) (hrs : rm.slots = 0) (hfr : rm.frames + 1 ≤ R.frames) (hlo : W + (maxL + 11) + rm.locals ≤ R.locals)
    {φ : List Value → Option Value} (hM : ∀ as v, φ as = some v → own_Met Z h l y bytes maxL ret rm (as.map (own_val ρ σ τ)) (own_val ρ σ τ v)) (hd : decode c.code pc = .ok (.invokevirtual index, 3)) :
    own_HookOk ρ σ τ p l e R s m args below meth c h (own_hV pc n W N φ) := by
  intro ls st r hl hr T X eT
  unfold own_hV at hr
  simp only at hr
  split at hr
  · rename_i t rest hdr
    split at hr
    · rename_i hg
      obtain ⟨v, h1, h2⟩ := Option.map_eq_some_iff.mp hr
      cases h2
      have hlen : ((st.take n).reverse.map (own_val ρ σ τ)).length = ps.length := by simp [hg.2.1, ← hn]
      have hst : own_st ρ σ τ st = ((st.take n).reverse.map (own_val ρ σ τ)).reverse ++ .ref (ρ t) :: own_st ρ σ τ rest := by
        rw [← List.map_reverse, List.reverse_reverse]
        conv => lhs; rw [← List.take_append_drop n st, hdr]
        simp [own_st, own_val]
      obtain ⟨cq, kq, qa, qb, qc⟩ := isOf hZ eT (hE t hg.1)
      obtain ⟨v', vm1, ⟨T', L', k', n'⟩, hw1, X', ⟨L, ⟨rfl, rfl, hh⟩, q1, q2, q3⟩, stp⟩ := X.virtualBack hx (y := y) (z := y) hown (mvT hZ wl) (mvT hZ wd) (notFace_of_selects (args := #[]) (mvT hZ wsel)) (mvT hZ wsel) (mvT hZ wm) hy
        (backOf (Q := fun v' h' L => v' = some (own_val ρ σ τ v) ∧ L = [] ∧ h' = h) (W := W) (hM _ _ h1) hZ wc wi hfr hlo) qa qc
        (g := mkF m pc (own_ls ρ σ τ ls) (own_st ρ σ τ st)) rfl (by simpa using hl) (Steps.refl _) (argsL := (st.take n).reverse.map (own_val ρ σ τ)) (rest := own_st ρ σ τ rest) (lenOf pd hlen) hst (by show 2 * 0 + _ ≤ _; rw [own_sum]; omega) hd (fun _ _ => ⟨rfl, eT, by show 0 + rm.cells ≤ _; rw [hrc]; exact Nat.zero_le _, by show 0 + rm.slots ≤ _; rw [hrs]; exact Nat.zero_le _⟩)
      dsimp only [Pt.U, Pt.locs, Pt.cells, Pt.slots] at X' hh q1 q2 q3 stp
      subst q1 q2 q3
      rw [hrc, hrs] at X'
      exact ⟨T', X', hh, fun _ k => stp.trans k⟩
    · cases hr
  · cases hr
theorem own_hVU_ok (hx : p.tables.exec = Jvm.exec) (hZ : Z.Warmed39 s.vm) {own C owner : String} {index pc n W N : Nat} (hown : s.vm.findClass own = some m.cls) {x y : MethodName} {bytes : ByteArray} {maxL : Nat} {ret : Option FieldType} {rm : Room}
    (wl : (Cond.methodLink own index x).before a0 Z = true) (wsm : (Cond.sameMethod x.cls owner x.name x.desc).before a0 Z = true) (wd : (Cond.declares ⟨owner, x.name, x.desc⟩).before a0 Z = true) (wsel : (Cond.selects C x y).before a0 Z = true) (wm : (Cond.instanceMethod y).before a0 Z = true) (wi : (Cond.initialized y.cls).before a0 Z = true) (wc : (Cond.code y bytes maxL ret).before a0 Z = true) (hy : owner ≠ "java/lang/invoke/MethodHandle" ∧ owner ≠ "java/lang/invoke/VarHandle")
    (hE : ∀ t, t < N → Exa Z h (ρ t) C)
    {ps : List FieldType} {rt : Option FieldType} (pd : parseMethodDescriptor x.desc = some ⟨ps, rt⟩) (hn : n = ps.length) (hrc : rm.cells = 0) (hrs : rm.slots = 0) (hfr : rm.frames + 1 ≤ R.frames) (hlo : W + (maxL + 11) + rm.locals ≤ R.locals)
    {φ : List Value → Option Value} (hM : ∀ as v, φ as = some v → own_Met Z h l y bytes maxL ret rm (as.map (own_val ρ σ τ)) (own_val ρ σ τ v)) (hd : decode c.code pc = .ok (.invokevirtual index, 3)) :
    own_HookOk ρ σ τ p l e R s m args below meth c h (own_hV pc n W N φ) := by
  intro ls st r hl hr T X eT
  unfold own_hV at hr
  simp only at hr
  split at hr
  · rename_i t rest hdr
    split at hr
    · rename_i hg
      obtain ⟨v, h1, h2⟩ := Option.map_eq_some_iff.mp hr
      cases h2
      have hlen : ((st.take n).reverse.map (own_val ρ σ τ)).length = ps.length := by simp [hg.2.1, ← hn]
      have hst : own_st ρ σ τ st = ((st.take n).reverse.map (own_val ρ σ τ)).reverse ++ .ref (ρ t) :: own_st ρ σ τ rest := by
        rw [← List.map_reverse, List.reverse_reverse]
        conv => lhs; rw [← List.take_append_drop n st, hdr]
        simp [own_st, own_val]
      obtain ⟨cq, kq, qa, qb, qc⟩ := isOf hZ eT (hE t hg.1)
      obtain ⟨v', vm1, ⟨T', L', k', n'⟩, hw1, X', ⟨L, ⟨rfl, rfl, hh⟩, q1, q2, q3⟩, stp⟩ := X.virtualBackUp hx (x := x) (y := y) hown (mvT hZ wl) (mvT hZ wsm) (mvT hZ wd) hy (mvT hZ wsel) (mvT hZ wm)
        (backOf (Q := fun v' h' L => v' = some (own_val ρ σ τ v) ∧ L = [] ∧ h' = h) (W := W) (hM _ _ h1) hZ wc wi hfr hlo) qa qc
        (g := mkF m pc (own_ls ρ σ τ ls) (own_st ρ σ τ st)) rfl (by simpa using hl) (Steps.refl _) (argsL := (st.take n).reverse.map (own_val ρ σ τ)) (rest := own_st ρ σ τ rest) (lenOf pd hlen) hst (by show 2 * 0 + _ ≤ _; rw [own_sum]; omega) hd (fun _ _ => ⟨rfl, eT, by show 0 + rm.cells ≤ _; rw [hrc]; exact Nat.zero_le _, by show 0 + rm.slots ≤ _; rw [hrs]; exact Nat.zero_le _⟩)
      dsimp only [Pt.U, Pt.locs, Pt.cells, Pt.slots] at X' hh q1 q2 q3 stp
      subst q1 q2 q3
      rw [hrc, hrs] at X'
      exact ⟨T', X', hh, fun _ k => stp.trans k⟩
    · cases hr
  · cases hr
theorem own_fold (L : List Value) : ∀ acc : Array Slot, (L.foldl (fun (acc : Array Slot) (v : Value) => if v.category = 2 then (acc.push (.val v)).push .second else acc.push (.val v)) acc).toList = acc.toList ++ L.flatMap fun v => if v.category = 2 then [.val v, .second] else [.val v] := by
  induction L with
  | nil => intro acc; simp
  | cons v L ih =>
    intro acc
    rw [List.foldl_cons, ih, List.flatMap_cons]
    split <;> simp
theorem own_entry_ok {maxL : Nat} {as : List Value} : entryFrame m (as.map (own_val ρ σ τ)).toArray maxL = mkF m 0 (own_ls ρ σ τ (own_entry maxL as)) (own_st ρ σ τ []) := by
  have e1 : ((as.map (own_val ρ σ τ)).flatMap fun v => if v.category = 2 then [Slot.val v, .second] else [.val v]) = (as.flatMap fun v => if v.category = 2 then [Slot.val v, .second] else [.val v]).map (own_slot ρ σ τ) := by
    induction as with
    | nil => rfl
    | cons v L ih =>
      simp only [List.map_cons, List.flatMap_cons, List.map_append, ih, own_cat]
      split <;> simp [own_slot]
  have e2 : argsToLocals (as.map (own_val ρ σ τ)).toArray maxL = own_ls ρ σ τ (own_entry maxL as) := by
    apply Array.ext'
    have q := own_fold (as.map (own_val ρ σ τ)) #[]
    simp only [argsToLocals, List.foldl_toArray', List.size_toArray, Array.toList_append, Array.toList_replicate, own_ls, own_entry] at *
    have q2 := congrArg List.length q
    simp only [Array.length_toList] at q2
    rw [q, q2, e1]
    simp [own_slot]
  simp only [entryFrame, mkF, e2, own_st, List.map_nil]
theorem own_run_none {N : Nat} {O : Jvm.ClassFile.Cond → Nat → Int32 → Option Bool} {code : ByteArray} {hooks : List (Nat × own_Hook)} : ∀ (n pc : Nat) (ls : List Slot) (st : List Value) (v : Value), own_run N O code hooks none n pc ls st ≠ some v
  | 0, _, _, _, _ => by intro q; cases q
  | n + 1, pc, ls, st, v => by
    intro hr
    unfold own_run at hr
    split at hr
    · split at hr
      · exact own_run_none n _ _ _ _ hr
      · cases hr
    · split at hr
      · split at hr
        · split at hr
          · rename_i ho; simp [own_retOk] at ho
          · split at hr
            · exact own_run_none n _ _ _ _ hr
            · cases hr
        · split at hr
          · exact own_run_none n _ _ _ _ hr
          · cases hr
      · cases hr
/-- A METHOD's CONTRACT, by the machine's run over its bytes -/
theorem own_met {N : Nat} {O : Jvm.ClassFile.Cond → Nat → Int32 → Option Bool} (hinj : ∀ a b, a < N → b < N → ρ a = ρ b → a = b) (hO : ∀ cd n z b, O cd n z = some b → if_icmp.holds cd (σ n) z = b) {y : MethodName} {bytes : ByteArray} {maxL : Nat} {ret : Option FieldType} {rm : Room} (ws : List Jvm.Cond) (hname : plainFor y = true) {hooks : List (Nat × own_Hook)} {n : Nat}
    (hok : ∀ (p : Program) (e : Env) (s : State) (m : MethodId) (args : Array Value) (below : List Frame) (meth : Method) (c : Code), p.tables.exec = Jvm.exec → Z.Warmed39 s.vm → s.vm.findClass y.cls = some m.cls → c.code = bytes → ∀ q ∈ hooks, own_HookOk ρ σ τ p l e rm s m args below meth c h q)
    (as : List Value) (v : Value) (hmax : (own_entry maxL as).length = maxL) (hrun : own_run N O bytes hooks ret n 0 (own_entry maxL as) [] = some v) :
    MetFree l y (head1 (Jvm.Cond.code y bytes maxL ret :: ws) rm) (fun a U => a = (as.map (own_val ρ σ τ)).toArray ∧ Z.Warmed39 U.vm ∧ U.heap = h) (fun _ _ _ _ _ => True) (fun _ U o U' => ∃ v' L, o = .returned v' ∧ (v' = some (own_val ρ σ τ v) ∧ L = [] ∧ U'.heap = h) ∧ FrameEnd U o U' L rm.cells rm.slots) := by
  refine MetFree.of_bodySF hname hisR ?_
  intro p e s m args below meth c s₁ Bd hml0 hP hK
  obtain ⟨rfl, hZ, hh⟩ := hP
  have hx := Bd.exec
  have hown : s.vm.findClass y.cls = some m.cls := findClass_of_methodNamed Bd.named
  have X0 : Stand p l e rm s m (as.map (own_val ρ σ τ)).toArray below meth c s₁ [] 0 0 := Stand.of_body Bd
  have e0 : s₁.heap = h := by rw [← hh, Bd.state]; rfl
  obtain ⟨T, X, eT, k⟩ := own_run_ok (ρ := ρ) (σ := σ) (τ := τ) hinj hO hx Bd.bytes Bd.returns (hooks := hooks) (h := h) (fun q hq ls st r h1 h2 => hok p e s m _ below meth c hx hZ hown Bd.bytes q hq ls st r h1 h2) n 0 (own_entry maxL as) [] v hrun (by rw [hmax, hml0]) s₁ X0 e0
  obtain ⟨fs, hr, hrun', hended, hW, hsame⟩ := X.leave (v := some (own_val ρ σ τ v)) (fun q => by
    rw [Bd.returns] at q
    subst q
    exact absurd hrun (own_run_none n _ _ _ _))
  exact ⟨_, _, castTop own_entry_ok (k fs hr), hrun', hended, _, _, rfl, ⟨rfl, rfl, eT⟩, ⟨_, rfl⟩, hW, hsame.mono (Nat.zero_le _) (Nat.zero_le _)⟩
end OwnHooks
section OwnFacts
variable {Z : State} {args : Array Value} {h : Heap}
theorem own_exa {t : Term} {C : String} (hx : (Cond.exactly t C).before args Z = true) : ∃ a, t.eval args Z none [] Z = some (.ref a) ∧ Exa Z Z.heap a C := by
  obtain ⟨a, c, cell, k, e1, -⟩ := Cond.exactly_spec hx
  exact ⟨a, e1, Exa.start e1 (Cond.before_iff.mp hx)⟩
theorem own_fldI {t : Term} {O n d : String} {z : Int32} {a : Addr} (ev : t.eval args Z none [] Z = some (.ref a)) (hq : (Cond.eq (.field t O n d) (.int z)).before args Z = true) : Fld Z Z.heap a O n d (.int z) := by
  refine Fld.start ?_
  have hv : (Term.field t O n d).eval args Z none [] Z = Z.fieldOf? a O n d := by simp [Term.eval, ev]
  have hi : (Term.int z).eval args Z none [] Z = some (.int z) := rfl
  simp only [Cond.before, Cond.holds, Cond.value, hv, hi] at hq
  cases hw : Z.fieldOf? a O n d with
  | none => simp [hw] at hq
  | some w => cases w <;> simp [hw] at hq <;> rw [hq]
theorem own_fldU {a : Addr} {O n d : String} {v w : Value} (F : Fld Z h a O n d v) (G : Fld Z h a O n d w) : v = w := by
  obtain ⟨c1, _, _, _, f1, h1, h2, -, -, -, -, h7⟩ := F
  obtain ⟨c2, _, _, _, f2, g1, g2, -, -, -, -, g7⟩ := G
  cases h1.symm.trans g1
  cases h2.symm.trans g2
  exact Option.some.inj (h7.symm.trans g7)
theorem own_below {N : Nat} {y : Int32} (h1 : 0 ≤ y.toInt) (h2 : y.toInt < N) : y ∈ (List.range N).map fun i => Int32.ofNat i := by
  refine List.mem_map.mpr ⟨y.toInt.toNat, List.mem_range.mpr (by omega), ?_⟩
  apply Int32.toInt_inj.mp
  have h3 := y.toInt_lt
  rw [Int32.toInt_ofNat_of_lt (by omega)]
  omega
theorem own_mod {N : Nat} (x : Int32) (hN : 0 < N) (hN2 : N < 1000) : (x &&& 2147483647) % Int32.ofNat N ∈ (List.range N).map fun i => Int32.ofNat i := by
  have e1 : (x &&& 2147483647).toInt = x.toInt % 2 ^ 31 := Jvm.Kit.i32_mask x 2147483647 (k := 31) (by decide) (by decide)
  have e2 : (Int32.ofNat N).toInt = N := Int32.toInt_ofNat_of_lt (by omega)
  have e3 : ((x &&& 2147483647) % Int32.ofNat N).toInt = (x.toInt % 2 ^ 31) % N := by
    rw [Int32.toInt_mod, e1, e2, Int.tmod_eq_emod_of_nonneg (by omega)]
  have q1 := Int.emod_nonneg (x.toInt % 2 ^ 31) (b := (N : Int)) (by omega)
  have q2 := Int.emod_lt_of_pos (x.toInt % 2 ^ 31) (b := (N : Int)) (by omega)
  exact own_below (by omega) (by omega)
theorem own_bit (x : Int32) : (x &&& 1) ∈ (List.range 2).map fun i => Int32.ofNat i := by
  have e1 : (x &&& 1).toInt = x.toInt % 2 ^ 1 := Jvm.Kit.i32_mask x 1 (k := 1) (by decide) (by decide)
  exact own_below (by omega) (by omega)
/-- what is known of an unknown int by an interval decides a comparison with a number -/
def own_iv (iv : Nat → Option (Int32 × Int32)) (cd : Jvm.ClassFile.Cond) (n : Nat) (z : Int32) : Option Bool :=
  match iv n with
  | some q => match cd with
    | .lt => if q.2 < z then some true else if z ≤ q.1 then some false else none
    | .ge => if q.2 < z then some false else if z ≤ q.1 then some true else none
    | .gt => if z < q.1 then some true else if q.2 ≤ z then some false else none
    | .le => if z < q.1 then some false else if q.2 ≤ z then some true else none
    | .eq => if q.2 < z ∨ z < q.1 then some false else none
    | .ne => if q.2 < z ∨ z < q.1 then some true else none
  | none => none
theorem own_iv_ok {iv : Nat → Option (Int32 × Int32)} {σ : Nat → Int32} (hQ : ∀ n q, iv n = some q → q.1 ≤ σ n ∧ σ n ≤ q.2) : ∀ cd n z b, own_iv iv cd n z = some b → if_icmp.holds cd (σ n) z = b := by
  intro cd n z b h
  unfold own_iv at h
  split at h
  · rename_i q hq
    obtain ⟨h1, h2⟩ := hQ n q hq
    rw [Int32.le_iff_toInt_le] at h1 h2
    cases cd <;> simp only at h <;> split at h
    all_goals (try split at h)
    all_goals first | (cases h; done) | skip
    all_goals
      rename_i hc
      cases h
      simp only [if_icmp.holds, decide_eq_true_eq, decide_eq_false_iff_not, beq_iff_eq, bne_iff_ne, beq_eq_false_iff_ne, ne_eq, bne_eq_false_iff_eq, GT.gt, GE.ge, Int32.lt_iff_toInt_lt, Int32.le_iff_toInt_le, ← Int32.toInt_inj] at *
      omega
  · cases h
theorem own_mask {M : Int32} {k N : Nat} (x m : Int32) (hk : M.toBitVec.toNat = 2 ^ k - 1) (hk2 : k < 31) (hN : N = 2 ^ k) (hm : M &&& m = m) {P : Int32 → Prop} (h : ∀ i ∈ (List.range N).map (fun i => Int32.ofNat i), P (i &&& m)) : P (x &&& m) := by
  have e1 : (x &&& M).toInt = x.toInt % 2 ^ k := Jvm.Kit.i32_mask x M (k := k) (by omega) hk
  have e2 : x &&& m = (x &&& M) &&& m := by rw [Int32.and_assoc, hm]
  rw [e2]
  have q1 : (0 : Int) < 2 ^ k := Int.pow_pos (by decide)
  have q2 := Int.emod_nonneg x.toInt (b := 2 ^ k) (by omega)
  have q3 := Int.emod_lt_of_pos x.toInt (b := 2 ^ k) q1
  exact h _ (own_below (by omega) (by rw [hN, e1]; simpa using q3))
theorem own_isLong {args : Array Value} {s : State} {t : Term} (h : (Cond.isLong t).before args s = true) : ∃ z, t.eval args s none [] s = some (.long z) := by
  simp only [Cond.before, Cond.holds, Cond.value] at h
  cases hw : t.eval args s none [] s with
  | none => simp [hw] at h
  | some w => cases w <;> simp [hw] at h ⊢
theorem own_fldL {t : Term} {O n d : String} {z : Int64} {a : Addr} (ev : t.eval args Z none [] Z = some (.ref a)) (hq : (Cond.eq (.field t O n d) (.long z)).before args Z = true) : Fld Z Z.heap a O n d (.long z) := by
  refine Fld.start ?_
  have hv : (Term.field t O n d).eval args Z none [] Z = Z.fieldOf? a O n d := by simp [Term.eval, ev]
  have hi : (Term.long z).eval args Z none [] Z = some (.long z) := rfl
  simp only [Cond.before, Cond.holds, Cond.value, hv, hi] at hq
  cases hw : Z.fieldOf? a O n d with
  | none => simp [hw] at hq
  | some w => cases w <;> simp [hw] at hq <;> rw [hq]
end OwnFacts
theorem own_pn1 : plainFor (⟨"java/lang/Math", "min", "(II)I"⟩ : MethodName) = true := by first | exact plainFor_of_name (by first | (simp [plainName, overriddenIn]; done) | decide +kernel) | decide +kernel
theorem own_pn2 : plainFor (⟨"com/example/ackorn/ackorn/message/DelayLevel", "delayOf", "(I)Ljava/time/Duration;"⟩ : MethodName) = true := by first | exact plainFor_of_name (by first | (simp [plainName, overriddenIn]; done) | decide +kernel) | decide +kernel
theorem own_pn3 : plainFor (⟨"java/time/Duration", "getSeconds", "()J"⟩ : MethodName) = true := by first | exact plainFor_of_name (by first | (simp [plainName, overriddenIn]; done) | decide +kernel) | decide +kernel
theorem own_pn4 : plainFor (⟨"com/example/ackorn/ackorn/message/DelayLevelDelayOfPinLaw", "expectedSeconds", "(I)J"⟩ : MethodName) = true := by first | exact plainFor_of_name (by first | (simp [plainName, overriddenIn]; done) | decide +kernel) | decide +kernel
theorem own_pn5 : plainFor (⟨"java/time/Duration", "getNano", "()I"⟩ : MethodName) = true := by first | exact plainFor_of_name (by first | (simp [plainName, overriddenIn]; done) | decide +kernel) | decide +kernel
theorem own_pn6 : plainFor (⟨"com/example/ackorn/ackorn/message/DelayLevelDelayOfPinLaw", "law", "(II)Z"⟩ : MethodName) = true := by first | exact plainFor_of_name (by first | (simp [plainName, overriddenIn]; done) | decide +kernel) | decide +kernel
theorem own_pd0 : parseMethodDescriptor "()I" = some ⟨[], some (.int)⟩ := by decide +kernel
theorem own_pd1 : parseMethodDescriptor "()J" = some ⟨[], some (.long)⟩ := by decide +kernel
theorem own_pd2 : parseMethodDescriptor "(I)J" = some ⟨[.int], some (.long)⟩ := by decide +kernel
theorem own_pd3 : parseMethodDescriptor "(I)Ljava/time/Duration;" = some ⟨[.int], some (.object "java/time/Duration")⟩ := by decide +kernel
theorem own_pd4 : parseMethodDescriptor "(II)I" = some ⟨[.int, .int], some (.int)⟩ := by decide +kernel
theorem own_pd5 : parseMethodDescriptor "(II)Z" = some ⟨[.int, .int], some (.boolean)⟩ := by decide +kernel
def own_sec : Nat → Int64 := fun t => [1, 5, 10, 30, 60, 120, 180, 240, 300, 360, 420, 480, 540, 600, 1200, 1800, 3600, 7200, 0].getD t 0
section OwnLaw
variable {Z : State} {a0 : Array Value} {h : Heap} {ρ : Nat → Addr} {σ : Nat → Int32} {τ : Nat → Int64} {l : Launch}
def own_hk1 (iv : Nat → Option (Int32 × Int32)) : List (Nat × own_Hook) := []
def own_run1 (iv : Nat → Option (Int32 × Int32)) (as : List Value) : Option Value := if (own_entry 2 as).length = 2 then own_run 0 (own_iv iv) jdk_29_method_69_code (own_hk1 iv) (Option.some Jvm.ClassFile.FieldType.int) 34 0 (own_entry 2 as) [] else none
set_option maxRecDepth 65536 in
theorem own_met1 (hw : ∀ d ∈ tables_1, d.before a0 Z = true) (hE : ∀ t, t < 19 → Exa Z h (ρ t) "java/time/Duration") (hF0 : ∀ t, t < 19 → Fld Z h (ρ t) "java/time/Duration" "seconds" "J" (.long (own_sec t))) (hF1 : ∀ t, t < 19 → Fld Z h (ρ t) "java/time/Duration" "nanos" "I" (.int 0)) (hS0 : Sta Z h "java/time/Duration" "ZERO" "Ljava/time/Duration;" (.ref (ρ 18))) (hS1 : Sta Z h "com/example/ackorn/ackorn/message/DelayLevel" "DELAYS" "[Ljava/time/Duration;" (.ref (ρ 19))) (hS2 : Sta Z h "com/example/ackorn/ackorn/message/DelayLevel" "HIGHEST" "I" (.int 18)) {cl : Cell} (hAr : Arr Z h (ρ 19) cl (.object "java/time/Duration")) (hsz : cl.slots.size = 18) (hat : ∀ i, i < 18 → cl.slots[i]? = some (.ref (ρ i))) (iv : Nat → Option (Int32 × Int32)) (hQ : ∀ n q, iv n = some q → q.1 ≤ σ n ∧ σ n ≤ q.2) (as : List Value) (v : Value) (hr : own_run1 iv as = some v) :
    own_Met Z h l (⟨"java/lang/Math", "min", "(II)I"⟩ : MethodName) jdk_29_method_69_code 2 (Option.some Jvm.ClassFile.FieldType.int) ({ frames := 0, cells := 0, slots := 0, locals := 0 } : Room) (as.map (own_val ρ σ τ)) (own_val ρ σ τ v) := by
  unfold own_run1 at hr
  split at hr
  · rename_i hm
    refine own_met (N := 0) (y := (⟨"java/lang/Math", "min", "(II)I"⟩ : MethodName)) (bytes := jdk_29_method_69_code) (maxL := 2) (ret := (Option.some Jvm.ClassFile.FieldType.int)) (rm := ({ frames := 0, cells := 0, slots := 0, locals := 0 } : Room)) (hooks := own_hk1 iv) (n := 34) (fun a b ha => absurd ha (Nat.not_lt_zero _)) (own_iv_ok hQ) [] own_pn1 (fun p e s m args below meth c hx hZ hown hby => ?_) as v hm hr
    intro q hq
    cases hq
  · cases hr
def own_hk2 (iv : Nat → Option (Int32 × Int32)) : List (Nat × own_Hook) := [own_hS 4 (.ref 18), own_hS 11 (.ref 19), own_hS 15 (.int 18), own_hC 18 2 6 (own_run1 iv), own_hA 23 19 18]
def own_run2 (iv : Nat → Option (Int32 × Int32)) (as : List Value) : Option Value := if (own_entry 2 as).length = 2 then own_run 0 (own_iv iv) prog_16_method_3_code (own_hk2 iv) (Option.some (Jvm.ClassFile.FieldType.object "java/time/Duration")) 50 0 (own_entry 2 as) [] else none
set_option maxRecDepth 65536 in
theorem own_met2 (hw : ∀ d ∈ tables_1, d.before a0 Z = true) (hE : ∀ t, t < 19 → Exa Z h (ρ t) "java/time/Duration") (hF0 : ∀ t, t < 19 → Fld Z h (ρ t) "java/time/Duration" "seconds" "J" (.long (own_sec t))) (hF1 : ∀ t, t < 19 → Fld Z h (ρ t) "java/time/Duration" "nanos" "I" (.int 0)) (hS0 : Sta Z h "java/time/Duration" "ZERO" "Ljava/time/Duration;" (.ref (ρ 18))) (hS1 : Sta Z h "com/example/ackorn/ackorn/message/DelayLevel" "DELAYS" "[Ljava/time/Duration;" (.ref (ρ 19))) (hS2 : Sta Z h "com/example/ackorn/ackorn/message/DelayLevel" "HIGHEST" "I" (.int 18)) {cl : Cell} (hAr : Arr Z h (ρ 19) cl (.object "java/time/Duration")) (hsz : cl.slots.size = 18) (hat : ∀ i, i < 18 → cl.slots[i]? = some (.ref (ρ i))) (iv : Nat → Option (Int32 × Int32)) (hQ : ∀ n q, iv n = some q → q.1 ≤ σ n ∧ σ n ≤ q.2) (as : List Value) (v : Value) (hr : own_run2 iv as = some v) :
    own_Met Z h l (⟨"com/example/ackorn/ackorn/message/DelayLevel", "delayOf", "(I)Ljava/time/Duration;"⟩ : MethodName) prog_16_method_3_code 2 (Option.some (Jvm.ClassFile.FieldType.object "java/time/Duration")) ({ frames := 1, cells := 0, slots := 0, locals := 19 } : Room) (as.map (own_val ρ σ τ)) (own_val ρ σ τ v) := by
  unfold own_run2 at hr
  split at hr
  · rename_i hm
    refine own_met (N := 0) (y := (⟨"com/example/ackorn/ackorn/message/DelayLevel", "delayOf", "(I)Ljava/time/Duration;"⟩ : MethodName)) (bytes := prog_16_method_3_code) (maxL := 2) (ret := (Option.some (Jvm.ClassFile.FieldType.object "java/time/Duration"))) (rm := ({ frames := 1, cells := 0, slots := 0, locals := 19 } : Room)) (hooks := own_hk2 iv) (n := 50) (fun a b ha => absurd ha (Nat.not_lt_zero _)) (own_iv_ok hQ) [] own_pn2 (fun p e s m args below meth c hx hZ hown hby => ?_) as v hm hr
    intro q hq
    simp only [own_hk2, List.mem_cons, List.not_mem_nil, or_false] at hq
    rcases hq with rfl | rfl | rfl | rfl | rfl
    · exact own_hS_ok hx hZ hown (hw _ (List.mem_of_getElem? (i := 4) rfl)) hS0 (hb hby (by decide +kernel))
    · exact own_hS_ok hx hZ hown (hw _ (List.mem_of_getElem? (i := 24) rfl)) hS1 (hb hby (by decide +kernel))
    · exact own_hS_ok hx hZ hown (hw _ (List.mem_of_getElem? (i := 26) rfl)) hS2 (hb hby (by decide +kernel))
    · exact own_hC_ok hx hZ hown (y := (⟨"java/lang/Math", "min", "(II)I"⟩ : MethodName)) (hw _ (List.mem_of_getElem? (i := 28) rfl)) (hw _ (List.mem_of_getElem? (i := 29) rfl)) (hw _ (List.mem_of_getElem? (i := 30) rfl)) (hw _ (List.mem_of_getElem? (i := 31) rfl)) (by decide) own_pd4 rfl rfl rfl (by decide) (by decide) (fun as v q => own_met1 hw hE hF0 hF1 hS0 hS1 hS2 hAr hsz hat iv hQ as v q) (hb hby (by decide +kernel))
    · exact own_hA_ok hx hZ hAr hsz hat (hb hby (by decide +kernel))
  · cases hr
def own_hk3 (iv : Nat → Option (Int32 × Int32)) : List (Nat × own_Hook) := [own_hF 1 (fun t => if t < 19 then some (.long (own_sec t)) else none)]
def own_run3 (iv : Nat → Option (Int32 × Int32)) (as : List Value) : Option Value := if (own_entry 1 as).length = 1 then own_run 0 (own_iv iv) jdk_2316_method_23_code (own_hk3 iv) (Option.some Jvm.ClassFile.FieldType.long) 26 0 (own_entry 1 as) [] else none
set_option maxRecDepth 65536 in
theorem own_met3 (hw : ∀ d ∈ tables_1, d.before a0 Z = true) (hE : ∀ t, t < 19 → Exa Z h (ρ t) "java/time/Duration") (hF0 : ∀ t, t < 19 → Fld Z h (ρ t) "java/time/Duration" "seconds" "J" (.long (own_sec t))) (hF1 : ∀ t, t < 19 → Fld Z h (ρ t) "java/time/Duration" "nanos" "I" (.int 0)) (hS0 : Sta Z h "java/time/Duration" "ZERO" "Ljava/time/Duration;" (.ref (ρ 18))) (hS1 : Sta Z h "com/example/ackorn/ackorn/message/DelayLevel" "DELAYS" "[Ljava/time/Duration;" (.ref (ρ 19))) (hS2 : Sta Z h "com/example/ackorn/ackorn/message/DelayLevel" "HIGHEST" "I" (.int 18)) {cl : Cell} (hAr : Arr Z h (ρ 19) cl (.object "java/time/Duration")) (hsz : cl.slots.size = 18) (hat : ∀ i, i < 18 → cl.slots[i]? = some (.ref (ρ i))) (iv : Nat → Option (Int32 × Int32)) (hQ : ∀ n q, iv n = some q → q.1 ≤ σ n ∧ σ n ≤ q.2) (as : List Value) (v : Value) (hr : own_run3 iv as = some v) :
    own_Met Z h l (⟨"java/time/Duration", "getSeconds", "()J"⟩ : MethodName) jdk_2316_method_23_code 1 (Option.some Jvm.ClassFile.FieldType.long) ({ frames := 0, cells := 0, slots := 0, locals := 0 } : Room) (as.map (own_val ρ σ τ)) (own_val ρ σ τ v) := by
  unfold own_run3 at hr
  split at hr
  · rename_i hm
    refine own_met (N := 0) (y := (⟨"java/time/Duration", "getSeconds", "()J"⟩ : MethodName)) (bytes := jdk_2316_method_23_code) (maxL := 1) (ret := (Option.some Jvm.ClassFile.FieldType.long)) (rm := ({ frames := 0, cells := 0, slots := 0, locals := 0 } : Room)) (hooks := own_hk3 iv) (n := 26) (fun a b ha => absurd ha (Nat.not_lt_zero _)) (own_iv_ok hQ) [] own_pn3 (fun p e s m args below meth c hx hZ hown hby => ?_) as v hm hr
    intro q hq
    simp only [own_hk3, List.mem_cons, List.not_mem_nil, or_false] at hq
    rcases hq with rfl
    · exact own_hF_ok hx hZ hown (hw _ (List.mem_of_getElem? (i := 11) rfl)) (fun t v hv => by
        split at hv
        · rename_i ht; cases hv; exact hF0 t ht
        · cases hv) (hb hby (by decide +kernel))
  · cases hr
def own_hk4 (iv : Nat → Option (Int32 × Int32)) : List (Nat × own_Hook) := [own_hL 31 (5), own_hL 40 (10), own_hL 49 (30), own_hL 63 (60), own_hL 74 (1200), own_hL 84 (1800), own_hL 94 (3600), own_hL 98 (7200)]
def own_run4 (iv : Nat → Option (Int32 × Int32)) (as : List Value) : Option Value := if (own_entry 2 as).length = 2 then own_run 0 (own_iv iv) method_3_code (own_hk4 iv) (Option.some Jvm.ClassFile.FieldType.long) 136 0 (own_entry 2 as) [] else none
set_option maxRecDepth 65536 in
theorem own_met4 (hw : ∀ d ∈ tables_1, d.before a0 Z = true) (hE : ∀ t, t < 19 → Exa Z h (ρ t) "java/time/Duration") (hF0 : ∀ t, t < 19 → Fld Z h (ρ t) "java/time/Duration" "seconds" "J" (.long (own_sec t))) (hF1 : ∀ t, t < 19 → Fld Z h (ρ t) "java/time/Duration" "nanos" "I" (.int 0)) (hS0 : Sta Z h "java/time/Duration" "ZERO" "Ljava/time/Duration;" (.ref (ρ 18))) (hS1 : Sta Z h "com/example/ackorn/ackorn/message/DelayLevel" "DELAYS" "[Ljava/time/Duration;" (.ref (ρ 19))) (hS2 : Sta Z h "com/example/ackorn/ackorn/message/DelayLevel" "HIGHEST" "I" (.int 18)) {cl : Cell} (hAr : Arr Z h (ρ 19) cl (.object "java/time/Duration")) (hsz : cl.slots.size = 18) (hat : ∀ i, i < 18 → cl.slots[i]? = some (.ref (ρ i))) (iv : Nat → Option (Int32 × Int32)) (hQ : ∀ n q, iv n = some q → q.1 ≤ σ n ∧ σ n ≤ q.2) (as : List Value) (v : Value) (hr : own_run4 iv as = some v) :
    own_Met Z h l (⟨"com/example/ackorn/ackorn/message/DelayLevelDelayOfPinLaw", "expectedSeconds", "(I)J"⟩ : MethodName) method_3_code 2 (Option.some Jvm.ClassFile.FieldType.long) ({ frames := 0, cells := 0, slots := 0, locals := 0 } : Room) (as.map (own_val ρ σ τ)) (own_val ρ σ τ v) := by
  unfold own_run4 at hr
  split at hr
  · rename_i hm
    refine own_met (N := 0) (y := (⟨"com/example/ackorn/ackorn/message/DelayLevelDelayOfPinLaw", "expectedSeconds", "(I)J"⟩ : MethodName)) (bytes := method_3_code) (maxL := 2) (ret := (Option.some Jvm.ClassFile.FieldType.long)) (rm := ({ frames := 0, cells := 0, slots := 0, locals := 0 } : Room)) (hooks := own_hk4 iv) (n := 136) (fun a b ha => absurd ha (Nat.not_lt_zero _)) (own_iv_ok hQ) [] own_pn4 (fun p e s m args below meth c hx hZ hown hby => ?_) as v hm hr
    intro q hq
    simp only [own_hk4, List.mem_cons, List.not_mem_nil, or_false] at hq
    rcases hq with rfl | rfl | rfl | rfl | rfl | rfl | rfl | rfl
    · exact own_hL_ok hx hZ hown (hw _ (List.mem_of_getElem? (i := 37) rfl)) (hb hby (by decide +kernel))
    · exact own_hL_ok hx hZ hown (hw _ (List.mem_of_getElem? (i := 35) rfl)) (hb hby (by decide +kernel))
    · exact own_hL_ok hx hZ hown (hw _ (List.mem_of_getElem? (i := 34) rfl)) (hb hby (by decide +kernel))
    · exact own_hL_ok hx hZ hown (hw _ (List.mem_of_getElem? (i := 32) rfl)) (hb hby (by decide +kernel))
    · exact own_hL_ok hx hZ hown (hw _ (List.mem_of_getElem? (i := 36) rfl)) (hb hby (by decide +kernel))
    · exact own_hL_ok hx hZ hown (hw _ (List.mem_of_getElem? (i := 38) rfl)) (hb hby (by decide +kernel))
    · exact own_hL_ok hx hZ hown (hw _ (List.mem_of_getElem? (i := 39) rfl)) (hb hby (by decide +kernel))
    · exact own_hL_ok hx hZ hown (hw _ (List.mem_of_getElem? (i := 33) rfl)) (hb hby (by decide +kernel))
  · cases hr
def own_hk5 (iv : Nat → Option (Int32 × Int32)) : List (Nat × own_Hook) := [own_hF 1 (fun t => if t < 19 then some (.int 0) else none)]
def own_run5 (iv : Nat → Option (Int32 × Int32)) (as : List Value) : Option Value := if (own_entry 1 as).length = 1 then own_run 0 (own_iv iv) jdk_2316_method_24_code (own_hk5 iv) (Option.some Jvm.ClassFile.FieldType.int) 26 0 (own_entry 1 as) [] else none
set_option maxRecDepth 65536 in
theorem own_met5 (hw : ∀ d ∈ tables_1, d.before a0 Z = true) (hE : ∀ t, t < 19 → Exa Z h (ρ t) "java/time/Duration") (hF0 : ∀ t, t < 19 → Fld Z h (ρ t) "java/time/Duration" "seconds" "J" (.long (own_sec t))) (hF1 : ∀ t, t < 19 → Fld Z h (ρ t) "java/time/Duration" "nanos" "I" (.int 0)) (hS0 : Sta Z h "java/time/Duration" "ZERO" "Ljava/time/Duration;" (.ref (ρ 18))) (hS1 : Sta Z h "com/example/ackorn/ackorn/message/DelayLevel" "DELAYS" "[Ljava/time/Duration;" (.ref (ρ 19))) (hS2 : Sta Z h "com/example/ackorn/ackorn/message/DelayLevel" "HIGHEST" "I" (.int 18)) {cl : Cell} (hAr : Arr Z h (ρ 19) cl (.object "java/time/Duration")) (hsz : cl.slots.size = 18) (hat : ∀ i, i < 18 → cl.slots[i]? = some (.ref (ρ i))) (iv : Nat → Option (Int32 × Int32)) (hQ : ∀ n q, iv n = some q → q.1 ≤ σ n ∧ σ n ≤ q.2) (as : List Value) (v : Value) (hr : own_run5 iv as = some v) :
    own_Met Z h l (⟨"java/time/Duration", "getNano", "()I"⟩ : MethodName) jdk_2316_method_24_code 1 (Option.some Jvm.ClassFile.FieldType.int) ({ frames := 0, cells := 0, slots := 0, locals := 0 } : Room) (as.map (own_val ρ σ τ)) (own_val ρ σ τ v) := by
  unfold own_run5 at hr
  split at hr
  · rename_i hm
    refine own_met (N := 0) (y := (⟨"java/time/Duration", "getNano", "()I"⟩ : MethodName)) (bytes := jdk_2316_method_24_code) (maxL := 1) (ret := (Option.some Jvm.ClassFile.FieldType.int)) (rm := ({ frames := 0, cells := 0, slots := 0, locals := 0 } : Room)) (hooks := own_hk5 iv) (n := 26) (fun a b ha => absurd ha (Nat.not_lt_zero _)) (own_iv_ok hQ) [] own_pn5 (fun p e s m args below meth c hx hZ hown hby => ?_) as v hm hr
    intro q hq
    simp only [own_hk5, List.mem_cons, List.not_mem_nil, or_false] at hq
    rcases hq with rfl
    · exact own_hF_ok hx hZ hown (hw _ (List.mem_of_getElem? (i := 22) rfl)) (fun t v hv => by
        split at hv
        · rename_i ht; cases hv; exact hF1 t ht
        · cases hv) (hb hby (by decide +kernel))
  · cases hr
def own_hk6 (iv : Nat → Option (Int32 × Int32)) (bb : Int32) (j : Int32) : List (Nat × own_Hook) := [own_hX 2 [.int 1, .retAddr 1] 3 [.int bb], own_hX 12 [.int 1, .retAddr 1] 13 [.retAddr 2], own_hX 15 [.int 31, .retAddr 2] 16 [.int j], own_hC 21 1 6 (own_run2 iv), own_hV 30 0 6 19 (own_run3 iv), own_hC 34 1 6 (own_run4 iv), own_hV 42 0 6 19 (own_run5 iv)]
def own_run6 (iv : Nat → Option (Int32 × Int32)) (bb : Int32) (j : Int32) (as : List Value) : Option Value := if (own_entry maxLocals as).length = maxLocals then own_run 0 (own_iv iv) code (own_hk6 iv bb j) ret 84 0 (own_entry maxLocals as) [] else none
set_option maxRecDepth 65536 in
theorem own_met6 (hw : ∀ d ∈ tables_1, d.before a0 Z = true) (hE : ∀ t, t < 19 → Exa Z h (ρ t) "java/time/Duration") (hF0 : ∀ t, t < 19 → Fld Z h (ρ t) "java/time/Duration" "seconds" "J" (.long (own_sec t))) (hF1 : ∀ t, t < 19 → Fld Z h (ρ t) "java/time/Duration" "nanos" "I" (.int 0)) (hS0 : Sta Z h "java/time/Duration" "ZERO" "Ljava/time/Duration;" (.ref (ρ 18))) (hS1 : Sta Z h "com/example/ackorn/ackorn/message/DelayLevel" "DELAYS" "[Ljava/time/Duration;" (.ref (ρ 19))) (hS2 : Sta Z h "com/example/ackorn/ackorn/message/DelayLevel" "HIGHEST" "I" (.int 18)) {cl : Cell} (hAr : Arr Z h (ρ 19) cl (.object "java/time/Duration")) (hsz : cl.slots.size = 18) (hat : ∀ i, i < 18 → cl.slots[i]? = some (.ref (ρ i))) (iv : Nat → Option (Int32 × Int32)) (hQ : ∀ n q, iv n = some q → q.1 ≤ σ n ∧ σ n ≤ q.2) (bb : Int32) (j : Int32) (h1 : bb = σ 1 &&& 1) (h2 : σ 2 = σ 1 >>> (1 &&& 31)) (h3 : j = σ 2 &&& 31) (as : List Value) (v : Value) (hr : own_run6 iv bb j as = some v) :
    MetFree l x (head1 (Jvm.Cond.code x code maxLocals ret :: tables_1) room_1) (fun a U => a = (as.map (own_val ρ σ τ)).toArray ∧ Z.Warmed39 U.vm ∧ U.heap = h) (fun _ _ _ _ _ => True) (fun _ U o U' => ∃ v' L, o = .returned v' ∧ (v' = some (own_val ρ σ τ v) ∧ L = [] ∧ U'.heap = h) ∧ FrameEnd U o U' L room_1.cells room_1.slots) := by
  unfold own_run6 at hr
  split at hr
  · rename_i hm
    refine own_met (N := 0) (y := x) (bytes := code) (maxL := maxLocals) (ret := ret) (rm := room_1) (hooks := own_hk6 iv bb j) (n := 84) (fun a b ha => absurd ha (Nat.not_lt_zero _)) (own_iv_ok hQ) tables_1 own_pn6 (fun p e s m args below meth c hx hZ hown hby => ?_) as v hm hr
    intro q hq
    simp only [own_hk6, List.mem_cons, List.not_mem_nil, or_false] at hq
    rcases hq with rfl | rfl | rfl | rfl | rfl | rfl | rfl
    · exact own_iand_ok hx rfl rfl (congrArg Value.int h1) (hb hby (by decide +kernel))
    · exact own_ishr_ok hx rfl rfl (congrArg Value.int h2) (hb hby (by decide +kernel))
    · exact own_iand_ok hx rfl rfl (congrArg Value.int h3) (hb hby (by decide +kernel))
    · exact own_hC_ok hx hZ hown (y := (⟨"com/example/ackorn/ackorn/message/DelayLevel", "delayOf", "(I)Ljava/time/Duration;"⟩ : MethodName)) (hw _ (List.mem_of_getElem? (i := 0) rfl)) (hw _ (List.mem_of_getElem? (i := 1) rfl)) (hw _ (List.mem_of_getElem? (i := 2) rfl)) (hw _ (List.mem_of_getElem? (i := 3) rfl)) (by decide) own_pd3 rfl rfl rfl (by decide) (by decide) (fun as v q => own_met2 hw hE hF0 hF1 hS0 hS1 hS2 hAr hsz hat iv hQ as v q) (hb hby (by decide +kernel))
    · exact own_hV_ok hx hZ hown (y := (⟨"java/time/Duration", "getSeconds", "()J"⟩ : MethodName)) (hw _ (List.mem_of_getElem? (i := 6) rfl)) (hw _ (List.mem_of_getElem? (i := 7) rfl)) (hw _ (List.mem_of_getElem? (i := 9) rfl)) (hw _ (List.mem_of_getElem? (i := 8) rfl)) (hw _ (List.mem_of_getElem? (i := 5) rfl)) (hw _ (List.mem_of_getElem? (i := 10) rfl)) (by decide) hE own_pd1 rfl rfl rfl (by decide) (by decide) (fun as v q => own_met3 hw hE hF0 hF1 hS0 hS1 hS2 hAr hsz hat iv hQ as v q) (hb hby (by decide +kernel))
    · exact own_hC_ok hx hZ hown (y := (⟨"com/example/ackorn/ackorn/message/DelayLevelDelayOfPinLaw", "expectedSeconds", "(I)J"⟩ : MethodName)) (hw _ (List.mem_of_getElem? (i := 13) rfl)) (hw _ (List.mem_of_getElem? (i := 14) rfl)) (hw _ (List.mem_of_getElem? (i := 15) rfl)) (hw _ (List.mem_of_getElem? (i := 16) rfl)) (by decide) own_pd2 rfl rfl rfl (by decide) (by decide) (fun as v q => own_met4 hw hE hF0 hF1 hS0 hS1 hS2 hAr hsz hat iv hQ as v q) (hb hby (by decide +kernel))
    · exact own_hV_ok hx hZ hown (y := (⟨"java/time/Duration", "getNano", "()I"⟩ : MethodName)) (hw _ (List.mem_of_getElem? (i := 17) rfl)) (hw _ (List.mem_of_getElem? (i := 18) rfl)) (hw _ (List.mem_of_getElem? (i := 20) rfl)) (hw _ (List.mem_of_getElem? (i := 19) rfl)) (hw _ (List.mem_of_getElem? (i := 5) rfl)) (hw _ (List.mem_of_getElem? (i := 21) rfl)) (by decide) hE own_pd0 rfl rfl rfl (by decide) (by decide) (fun as v q => own_met5 hw hE hF0 hF1 hS0 hS1 hS2 hAr hsz hat iv hQ as v q) (hb hby (by decide +kernel))
  · cases hr
end OwnLaw
def own_low (n : Nat) : Option (Int32 × Int32) := if n = 0 then some (-2147483648, 0) else none
def own_high (n : Nat) : Option (Int32 × Int32) := if n = 0 then some (19, 2147483647) else none
theorem own_allA : ∀ j ∈ (List.range 32).map (fun i => Int32.ofNat i), own_run6 (fun _ => none) 0 j [.retAddr 0, .retAddr 1] = some (.int 1) := by decide +kernel
theorem own_allB : ∀ j ∈ (List.range 32).map (fun i => Int32.ofNat i), ∀ u ∈ (List.range 19).map (fun i => Int32.ofNat i), own_run6 (fun _ => none) 1 j [.int u, .retAddr 1] = some (.int 1) := by decide +kernel
theorem own_allC : ∀ j ∈ (List.range 32).map (fun i => Int32.ofNat i), own_run6 own_low 1 j [.retAddr 0, .retAddr 1] = some (.int 1) := by decide +kernel
theorem own_allD : ∀ j ∈ (List.range 32).map (fun i => Int32.ofNat i), own_run6 own_high 1 j [.retAddr 0, .retAddr 1] = some (.int 1) := by decide +kernel
theorem own_elem {args : Array Value} {Z : State} {t : Term} {a : Addr} {cl : Cell} {ty : FieldType} {j : Int32} {v : Value} (ev : t.eval args Z none [] Z = some (.ref a)) (A : Arr Z Z.heap a cl ty) (h : (Term.elem t (.int j)).eval args Z none [] Z = some v) : cl.slots[j.toNatClampNeg]? = some v := by
  have e1 : Z.arrayAt? a = some cl := Arr.fin (U := Z) (State.Warmed39.refl Z).alike A
  simp only [Term.eval, ev, Option.bind_eq_bind, Option.bind_some] at h
  split at h
  · cases h
  · rw [e1] at h; exact h
theorem own_staI {args : Array Value} {Z : State} {t : Term} {z : Int32} (h : (Cond.eq t (.int z)).before args Z = true) : t.eval args Z none [] Z = some (.int z) := by
  have hi : (Term.int z).eval args Z none [] Z = some (.int z) := rfl
  simp only [Cond.before, Cond.holds, Cond.value, hi] at h
  cases hw : t.eval args Z none [] Z with
  | none => simp [hw] at h
  | some w => cases w <;> simp [hw] at h <;> rw [h]
theorem own_len {args : Array Value} {Z : State} {t : Term} {a : Addr} {cl : Cell} {ty : FieldType} {n : Nat} (ev : t.eval args Z none [] Z = some (.ref a)) (A : Arr Z Z.heap a cl ty) (hn : n < 2147483648) (h : (Cond.eq (.length t) (.int (Int32.ofNat n))).before args Z = true) : cl.slots.size = n := by
  have e1 : Z.arrayAt? a = some cl := Arr.fin (U := Z) (State.Warmed39.refl Z).alike A
  have hi : (Term.int (Int32.ofNat n)).eval args Z none [] Z = some (.int (Int32.ofNat n)) := rfl
  have hl : (Term.length t).eval args Z none [] Z = if cl.slots.size < 2 ^ 31 then some (.int cl.slots.size.toInt32) else none := by simp [Term.eval, ev, e1]
  have h := own_staI h
  rw [hl] at h
  split at h
  · rename_i hs
    have q : cl.slots.size.toInt32 = Int32.ofNat n := by injection h with h; injection h
    have q1 := congrArg Int32.toInt q
    rw [Int32.toInt_ofNat_of_lt hn, show cl.slots.size.toInt32 = Int32.ofNat cl.slots.size from rfl, Int32.toInt_ofNat_of_lt hs] at q1
    omega
  · cases h
theorem own_arrRef {args : Array Value} {Z : State} {t : Term} {ty : FieldType} (h : (Cond.arrayOf t ty).before args Z = true) : ∃ a, t.eval args Z none [] Z = some (.ref a) := by
  simp only [Cond.before, Cond.holds, Cond.value] at h
  split at h
  · simp at h
  · cases hw : t.eval args Z none [] Z with
    | none => simp [hw] at h
    | some w => cases w <;> simp [hw] at h ⊢
set_option maxRecDepth 65536 in
theorem own_comes {Post : Tables → Env → Array Value → State → Outcome → State → Prop} (hpost : ∀ tb e args s v u, (limb_1_1.after args s (.returned v) u = true ∧ limb_1_2.after args s (.returned v) u = true) → FrameEnd s (.returned v) u (Jvm.fieldLocs frame_1_writes args s ++ Jvm.arrayLocs frame_1_arrays args s ++ Jvm.staticLocs frame_1_statics s) 0 0 → Post tb e args s (.returned v) u) :
    ArmFor flags0 classFile x code maxLocals ret World_1 tables_1 room_1 Calls_1 rest_1 Pre_1 Post := by
  intro l hfl _ _ p e ha hc hk s m args below hf hA hF happ hP
  obtain ⟨hcalls, hrest, hpre⟩ := hP
  obtain ⟨-, -, -, hnamed, -, -, -, hat⟩ := (Spec.applies_iff hf).mp happ
  have hpre' : (Jvm.Cond.and given_1 narrow_1).before args s = true := hpre
  rw [Cond.before_and, Bool.and_eq_true] at hpre'
  obtain ⟨hg, hn⟩ := hpre'
  simp only [given_1, Cond.before_and, Bool.and_eq_true] at hg
  simp only [narrow_1, Cond.before_and, Bool.and_eq_true] at hn
  obtain ⟨n0, n1, n2, n3, n4, n5, n6, n7, n8, n9, n10, n11, n12, n13, n14, n15, n16, n17, n18, n19, n20, n21, n22, n23, n24, n25, n26, n27, n28, n29, n30, n31, n32, n33, n34, n35, n36, n37, n38, n39, n40, n41, n42, n43, n44, n45, n46, n47, n48, n49, n50, n51, n52, n53, n54, n55, n56⟩ := hn
  obtain ⟨gc, g0, g1⟩ := hg
  have hw := fun d (hd : d ∈ tables_1) => atoms_spec (ws := Jvm.Cond.code x code maxLocals ret :: tables_1) hat d (List.mem_cons_of_mem _ hd)
  obtain ⟨w0, w1, rfl⟩ : ∃ w0 w1 : Value, args = #[w0, w1] := by
    have hs : args.size = 2 := by simpa [Cond.before, Cond.holds, Cond.value] using gc
    obtain ⟨L⟩ := args
    match L, hs with
    | [w0, w1], _ => exact ⟨w0, w1, rfl⟩
  obtain ⟨i0, e0⟩ := is_v (Cond.before_iff.mp g0)
  obtain rfl : w0 = (.int i0) := Option.some.inj e0
  obtain ⟨i1, e1⟩ := is_v (Cond.before_iff.mp g1)
  obtain rfl : w1 = (.int i1) := Option.some.inj e1
  have hr : rest_1_c.before #[.int i0, .int i1] s = true := hrest
  simp only [rest_1_c, Cond.before_and, Bool.and_eq_true] at hr
  obtain ⟨r0, r1, r2, r3, r4, -⟩ := hr
  obtain ⟨b18, v18, E18⟩ := own_exa r2
  obtain ⟨b19, v19⟩ := own_arrRef n0
  obtain ⟨cl, Ar⟩ := Arr.start v19 (Cond.before_iff.mp n0)
  have hsz := own_len (n := 18) v19 Ar (by decide) n1
  have S0 := Sta.start v18 (Or.inl r1)
  have S1 := Sta.start v19 (Or.inr ⟨(hw _ (List.mem_of_getElem? (i := 2) rfl)), (hw _ (List.mem_of_getElem? (i := 25) rfl))⟩)
  have S2 := Sta.start (own_staI n2) (Or.inr ⟨(hw _ (List.mem_of_getElem? (i := 2) rfl)), (hw _ (List.mem_of_getElem? (i := 27) rfl))⟩)
  obtain ⟨b0, v0, E0⟩ := own_exa n30
  have V0 := own_elem v19 Ar v0
  obtain ⟨b1, v1, E1⟩ := own_exa n27
  have V1 := own_elem v19 Ar v1
  obtain ⟨b2, v2, E2⟩ := own_exa n18
  have V2 := own_elem v19 Ar v2
  obtain ⟨b3, v3, E3⟩ := own_exa n9
  have V3 := own_elem v19 Ar v3
  obtain ⟨b4, v4, E4⟩ := own_exa n33
  have V4 := own_elem v19 Ar v4
  obtain ⟨b5, v5, E5⟩ := own_exa n39
  have V5 := own_elem v19 Ar v5
  obtain ⟨b6, v6, E6⟩ := own_exa n45
  have V6 := own_elem v19 Ar v6
  obtain ⟨b7, v7, E7⟩ := own_exa n12
  have V7 := own_elem v19 Ar v7
  obtain ⟨b8, v8, E8⟩ := own_exa n42
  have V8 := own_elem v19 Ar v8
  obtain ⟨b9, v9, E9⟩ := own_exa n21
  have V9 := own_elem v19 Ar v9
  obtain ⟨b10, v10, E10⟩ := own_exa n51
  have V10 := own_elem v19 Ar v10
  obtain ⟨b11, v11, E11⟩ := own_exa n15
  have V11 := own_elem v19 Ar v11
  obtain ⟨b12, v12, E12⟩ := own_exa n54
  have V12 := own_elem v19 Ar v12
  obtain ⟨b13, v13, E13⟩ := own_exa n3
  have V13 := own_elem v19 Ar v13
  obtain ⟨b14, v14, E14⟩ := own_exa n24
  have V14 := own_elem v19 Ar v14
  obtain ⟨b15, v15, E15⟩ := own_exa n36
  have V15 := own_elem v19 Ar v15
  obtain ⟨b16, v16, E16⟩ := own_exa n48
  have V16 := own_elem v19 Ar v16
  obtain ⟨b17, v17, E17⟩ := own_exa n6
  have V17 := own_elem v19 Ar v17
  obtain ⟨ρ, hρ⟩ : ∃ ρ : Nat → Addr, ρ 0 = b0 ∧ ρ 1 = b1 ∧ ρ 2 = b2 ∧ ρ 3 = b3 ∧ ρ 4 = b4 ∧ ρ 5 = b5 ∧ ρ 6 = b6 ∧ ρ 7 = b7 ∧ ρ 8 = b8 ∧ ρ 9 = b9 ∧ ρ 10 = b10 ∧ ρ 11 = b11 ∧ ρ 12 = b12 ∧ ρ 13 = b13 ∧ ρ 14 = b14 ∧ ρ 15 = b15 ∧ ρ 16 = b16 ∧ ρ 17 = b17 ∧ ρ 18 = b18 ∧ ρ 19 = b19 := ⟨fun i => [b0, b1, b2, b3, b4, b5, b6, b7, b8, b9, b10, b11, b12, b13, b14, b15, b16, b17, b18, b19].getD i 0, rfl, rfl, rfl, rfl, rfl, rfl, rfl, rfl, rfl, rfl, rfl, rfl, rfl, rfl, rfl, rfl, rfl, rfl, rfl, rfl⟩
  obtain ⟨rfl, rfl, rfl, rfl, rfl, rfl, rfl, rfl, rfl, rfl, rfl, rfl, rfl, rfl, rfl, rfl, rfl, rfl, rfl, rfl⟩ := hρ
  have hE : ∀ t, t < 19 → Exa s s.heap (ρ t) "java/time/Duration" := fun t ht => by
    match t, ht with
    | 0, _ => exact E0
    | 1, _ => exact E1
    | 2, _ => exact E2
    | 3, _ => exact E3
    | 4, _ => exact E4
    | 5, _ => exact E5
    | 6, _ => exact E6
    | 7, _ => exact E7
    | 8, _ => exact E8
    | 9, _ => exact E9
    | 10, _ => exact E10
    | 11, _ => exact E11
    | 12, _ => exact E12
    | 13, _ => exact E13
    | 14, _ => exact E14
    | 15, _ => exact E15
    | 16, _ => exact E16
    | 17, _ => exact E17
    | 18, _ => exact E18
    | n + 19, q => exact absurd q (by omega)
  have hF0 : ∀ t, t < 19 → Fld s s.heap (ρ t) "java/time/Duration" "seconds" "J" (.long (own_sec t)) := fun t ht => by
    match t, ht with
    | 0, _ => exact own_fldL v0 n31
    | 1, _ => exact own_fldL v1 n28
    | 2, _ => exact own_fldL v2 n19
    | 3, _ => exact own_fldL v3 n10
    | 4, _ => exact own_fldL v4 n34
    | 5, _ => exact own_fldL v5 n40
    | 6, _ => exact own_fldL v6 n46
    | 7, _ => exact own_fldL v7 n13
    | 8, _ => exact own_fldL v8 n43
    | 9, _ => exact own_fldL v9 n22
    | 10, _ => exact own_fldL v10 n52
    | 11, _ => exact own_fldL v11 n16
    | 12, _ => exact own_fldL v12 n55
    | 13, _ => exact own_fldL v13 n4
    | 14, _ => exact own_fldL v14 n25
    | 15, _ => exact own_fldL v15 n37
    | 16, _ => exact own_fldL v16 n49
    | 17, _ => exact own_fldL v17 n7
    | 18, _ => exact own_fldL v18 r3
    | n + 19, q => exact absurd q (by omega)
  have hF1 : ∀ t, t < 19 → Fld s s.heap (ρ t) "java/time/Duration" "nanos" "I" (.int 0) := fun t ht => by
    match t, ht with
    | 0, _ => exact own_fldI v0 n32
    | 1, _ => exact own_fldI v1 n29
    | 2, _ => exact own_fldI v2 n20
    | 3, _ => exact own_fldI v3 n11
    | 4, _ => exact own_fldI v4 n35
    | 5, _ => exact own_fldI v5 n41
    | 6, _ => exact own_fldI v6 n47
    | 7, _ => exact own_fldI v7 n14
    | 8, _ => exact own_fldI v8 n44
    | 9, _ => exact own_fldI v9 n23
    | 10, _ => exact own_fldI v10 n53
    | 11, _ => exact own_fldI v11 n17
    | 12, _ => exact own_fldI v12 n56
    | 13, _ => exact own_fldI v13 n5
    | 14, _ => exact own_fldI v14 n26
    | 15, _ => exact own_fldI v15 n38
    | 16, _ => exact own_fldI v16 n50
    | 17, _ => exact own_fldI v17 n8
    | 18, _ => exact own_fldI v18 r4
    | n + 19, q => exact absurd q (by omega)
  have hat' : ∀ t, t < 18 → cl.slots[t]? = some (.ref (ρ t)) := fun t ht => by
    match t, ht with
    | 0, _ => exact V0
    | 1, _ => exact V1
    | 2, _ => exact V2
    | 3, _ => exact V3
    | 4, _ => exact V4
    | 5, _ => exact V5
    | 6, _ => exact V6
    | 7, _ => exact V7
    | 8, _ => exact V8
    | 9, _ => exact V9
    | 10, _ => exact V10
    | 11, _ => exact V11
    | 12, _ => exact V12
    | 13, _ => exact V13
    | 14, _ => exact V14
    | 15, _ => exact V15
    | 16, _ => exact V16
    | 17, _ => exact V17
    | n + 18, q => exact absurd q (by omega)
  obtain ⟨σ, s0, s1, s2⟩ : ∃ σ : Nat → Int32, σ 0 = i0 ∧ σ 1 = i1 ∧ σ 2 = i1 >>> (1 &&& 31) := ⟨fun n => [i0, i1, i1 >>> (1 &&& 31)].getD n 0, rfl, rfl, rfl⟩
  have hj : ((i1 >>> (1 &&& 31)) &&& 31) ∈ (List.range 32).map (fun i => Int32.ofNat i) := own_mask (M := 31) (k := 5) (N := 32) (i1 >>> (1 &&& 31)) 31 (by decide) (by decide) (by decide) (by decide) (P := fun z => z ∈ (List.range 32).map (fun i => Int32.ofNat i)) (by decide)
  obtain ⟨iv, as, hQ, has, hrun⟩ : ∃ (iv : Nat → Option (Int32 × Int32)) (as : List Value), (∀ n q, iv n = some q → q.1 ≤ σ n ∧ σ n ≤ q.2) ∧ (as.map (own_val ρ σ (fun _ => 0))).toArray = #[.int i0, .int i1] ∧ own_run6 iv (i1 &&& 1) ((i1 >>> (1 &&& 31)) &&& 31) as = some (.int 1) := by
    have hb := own_bit i1
    simp only [List.range, List.range.loop, List.map_cons, List.map_nil, List.mem_cons, List.not_mem_nil, or_false] at hb
    rcases hb with hb | hb
    · rw [hb]; exact ⟨fun _ => none, [.retAddr 0, .retAddr 1], (fun _ _ q => by cases q), by simp [own_val, s0, s1], own_allA _ hj⟩
    · rw [hb]
      by_cases q1 : i0.toInt ≤ 0
      · refine ⟨own_low, [.retAddr 0, .retAddr 1], ?_, by simp [own_val, s0, s1], own_allC _ hj⟩
        intro n q hq
        unfold own_low at hq
        split at hq
        · rename_i hn; subst hn; cases hq; rw [s0]
          exact ⟨by rw [Int32.le_iff_toInt_le]; exact i0.le_toInt, by rw [Int32.le_iff_toInt_le]; exact q1⟩
        · cases hq
      · by_cases q2 : i0.toInt < 19
        · exact ⟨fun _ => none, [.int i0, .retAddr 1], (fun _ _ q => by cases q), by simp [own_val, s1], own_allB _ hj i0 (own_below (by omega) (by omega))⟩
        · refine ⟨own_high, [.retAddr 0, .retAddr 1], ?_, by simp [own_val, s0, s1], own_allD _ hj⟩
          intro n q hq
          unfold own_high at hq
          split at hq
          · rename_i hn; subst hn; cases hq; rw [s0]
            have e4 := i0.toInt_lt
            exact ⟨by rw [Int32.le_iff_toInt_le]; show 19 ≤ i0.toInt; omega, by rw [Int32.le_iff_toInt_le]; show i0.toInt ≤ 2147483647; omega⟩
          · cases hq
  obtain ⟨n, o, h1, h2, h3, _, L, rfl, ⟨rfl, rfl, -⟩, hq⟩ := own_met6 (ρ := ρ) (σ := σ) (τ := fun _ => 0) (l := l) hw hE hF0 hF1 S0 S1 S2 Ar hsz hat' iv hQ _ _ (by rw [s1]) (by rw [s1, s2]) (by rw [s2]) as (.int 1) hrun p e ha hc hk s m _ below hf ((Spec.applies_iff_loose hf).mp happ).1 ⟨has.symm, State.Warmed39.refl s, rfl⟩ trivial
  refine ⟨n, _, h1, h2, h3, hpost _ _ _ _ _ _ ⟨Cond.after_iff.mpr rfl, Cond.after_iff.mpr (eq_i res_at (Term.int_eval (1)) rfl)⟩ ⟨hq.1, hq.2.1, (hq.2.2.sift fun y hy => by cases hy).mono (by decide) (by decide)⟩⟩
theorem main_1_1 : Claimed_1_1 := own_comes fun _ _ _ _ _ _ h hF => ⟨h.1, hF⟩
theorem main_1_2 : Claimed_1_2 := own_comes fun _ _ _ _ _ _ h hF => ⟨h.2, hF⟩
end Jvm.Pilot.@@N@@
namespace Jvm.Pilot.@@N@@
open Jvm Jvm.ClassFile Sem Op Lib Jvm.Free Jvm.Stand Jvm.Pilot.@@N@@.Jvm.D
/-! MADE BY PROGRAM (witnessworld.py) out of the Statement's table words and the real class files: 14 classes; the members and pool entries that the words name. The judged class is class 1, her method 1. -/
namespace start1
open Jvm.ClassFile
def u (s : String) : CpInfo := .utf8 (stringToUtf16 s)
/-- a pool by its gaps: so many unusable entries, then the entry; so many at the end -/
def gap : Nat → List CpInfo → List CpInfo
  | 0, r => r
  | n + 1, r => .unusable :: gap n r
def poolList (es : List (Nat × CpInfo)) (last : Nat) : List CpInfo := es.foldr (fun e r => gap e.1 (e.2 :: r)) (gap last [])
def pool (es : List (Nat × CpInfo)) (last : Nat) : Array CpInfo := ⟨poolList es last⟩
def fileOf (pool : Array CpInfo) (this : Nat) (attrs : Array Attribute := #[]) (ms : Array MethodInfo := #[]) (fl : Nat := 33) (sup : Nat := 0) (ifs : Array Nat := #[]) (fds : Array FieldInfo := #[]) : ClassFile where
  minorVersion := 0
  majorVersion := 65
  constantPool := pool
  accessFlags := fl
  thisClass := this
  superClass := sup
  interfaces := ifs
  fields := fds
  methods := ms
  attributes := attrs
def plain (name : String) (sup : Option ClassId) : Class where
  name := name
  kind := .ordinary
  loader := none
  accessFlags := 33
  super := sup
  interfaces := #[]
  cf := none
  fields := #[]
  methods := #[]
  instanceTypes := #[]
  staticTypes := #[]
  resolved := #[]
  callSites := []
  init := .initialized
  statics := none
  mirror := none

def pool0 : Array CpInfo := pool [(5, u "<init>"), (0, u "()V"), (1, .class_ 10), (1, u "java/lang/Object")] 113

def k0m0 : Method := { name := "<init>", desc := "()V", sig := { parameters := [], returnType := none }, accessFlags := 1, code := none }
/-- java/lang/Object -/
def k0 : Class := { plain "java/lang/Object" none with
  accessFlags := 33
  interfaces := #[]
  cf := some (fileOf pool0 8 #[] #[{ accessFlags := 1, nameIndex := 5, descriptorIndex := 6, attributes := #[] }] 33 0 #[] #[])
  fields := #[]
  methods := #[k0m0]
  instanceTypes := #[]
  staticTypes := #[]
  resolved := Array.replicate 124 none
  statics := none }

def pool1 : Array CpInfo := pool [(2, .class_ 4), (1, u "java/lang/Object"), (0, u "<init>"), (0, u "()V"), (0, .methodref 8 9), (0, .class_ 10), (0, .nameAndType 11 12), (0, u "com/example/ackorn/ackorn/message/DelayLevel"), (0, u "delayOf"), (0, u "(I)Ljava/time/Duration;"), (0, .methodref 14 15), (0, .class_ 16), (0, .nameAndType 17 18), (0, u "java/time/Duration"), (0, u "getSeconds"), (0, u "()J"), (0, .methodref 20 21), (0, .class_ 22), (0, .nameAndType 23 24), (0, u "com/example/ackorn/ackorn/message/DelayLevelDelayOfPinLaw"), (0, u "expectedSeconds"), (0, u "(I)J"), (0, .methodref 14 26), (0, .nameAndType 27 28), (0, u "getNano"), (0, u "()I"), (0, .long 5), (1, .long 10), (1, .long 30), (1, .long 60), (1, .long 1200), (1, .long 1800), (1, .long 3600), (1, .long 7200), (3, u "law"), (0, u "(II)Z")] 3

def k1m0 : Method := { name := "<init>", desc := "()V", sig := { parameters := [], returnType := none }, accessFlags := 2, code := none }
def k1c1 : Code := { maxStack := 4, maxLocals := 4, code := code, exceptionTable := #[], attributes := #[] }
def k1m1 : Method := { name := "law", desc := "(II)Z", sig := { parameters := [.int, .int], returnType := some .boolean }, accessFlags := 9, code := some k1c1 }
def k1c2 : Code := { maxStack := 4, maxLocals := 2, code := method_3_code, exceptionTable := #[], attributes := #[] }
def k1m2 : Method := { name := "expectedSeconds", desc := "(I)J", sig := { parameters := [.int], returnType := some .long }, accessFlags := 10, code := some k1c2 }
/-- com/example/ackorn/ackorn/message/DelayLevelDelayOfPinLaw -/
def k1 : Class := { plain "com/example/ackorn/ackorn/message/DelayLevelDelayOfPinLaw" (some 0) with
  accessFlags := 49
  interfaces := #[]
  cf := some (fileOf pool1 20 #[] #[{ accessFlags := 2, nameIndex := 5, descriptorIndex := 6, attributes := #[] }, { accessFlags := 9, nameIndex := 47, descriptorIndex := 48, attributes := #[] }, { accessFlags := 10, nameIndex := 23, descriptorIndex := 24, attributes := #[] }] 49 2 #[] #[])
  fields := #[]
  methods := #[k1m0, k1m1, k1m2]
  instanceTypes := #[]
  staticTypes := #[]
  resolved := Array.replicate 52 none
  statics := none }

def pool2 : Array CpInfo := pool [(2, .class_ 4), (1, u "java/lang/Object"), (0, u "<init>"), (0, u "()V"), (35, .fieldref 43 44), (0, .class_ 45), (0, .nameAndType 46 47), (0, u "java/time/Duration"), (0, u "ZERO"), (0, u "Ljava/time/Duration;"), (0, .fieldref 49 50), (0, .class_ 51), (0, .nameAndType 52 53), (0, u "com/example/ackorn/ackorn/message/DelayLevel"), (0, u "DELAYS"), (0, u "[Ljava/time/Duration;"), (0, .fieldref 49 55), (0, .nameAndType 56 57), (0, u "HIGHEST"), (0, u "I"), (0, .methodref 59 60), (0, .class_ 61), (0, .nameAndType 62 63), (0, u "java/lang/Math"), (0, u "min"), (0, u "(II)I"), (36, u "delayOf"), (0, u "(I)Ljava/time/Duration;")] 18

def k2m0 : Method := { name := "<init>", desc := "()V", sig := { parameters := [], returnType := none }, accessFlags := 2, code := none }
def k2c1 : Code := { maxStack := 3, maxLocals := 2, code := prog_16_method_3_code, exceptionTable := #[], attributes := #[] }
def k2m1 : Method := { name := "delayOf", desc := "(I)Ljava/time/Duration;", sig := { parameters := [.int], returnType := some (.object "java/time/Duration") }, accessFlags := 9, code := some k2c1 }
/-- com/example/ackorn/ackorn/message/DelayLevel -/
def k2 : Class := { plain "com/example/ackorn/ackorn/message/DelayLevel" (some 0) with
  accessFlags := 49
  interfaces := #[]
  cf := some (fileOf pool2 49 #[] #[{ accessFlags := 2, nameIndex := 5, descriptorIndex := 6, attributes := #[] }, { accessFlags := 9, nameIndex := 100, descriptorIndex := 101, attributes := #[] }] 49 2 #[] #[{ accessFlags := 26, nameIndex := 52, descriptorIndex := 53, attributes := #[] }, { accessFlags := 25, nameIndex := 56, descriptorIndex := 57, attributes := #[] }])
  fields := #[{ name := "DELAYS", type := (.array (.object "java/time/Duration")), accessFlags := 26, slot := 0, constantValue := 0 }, { name := "HIGHEST", type := .int, accessFlags := 25, slot := 1, constantValue := 0 }]
  methods := #[k2m0, k2m1]
  instanceTypes := #[]
  staticTypes := #[(.array (.object "java/time/Duration")), .int]
  resolved := Array.replicate 120 none
  statics := some 0 }

def pool3 : Array CpInfo := pool [(1, .class_ 2), (0, u "java/time/temporal/TemporalAmount"), (0, .class_ 4), (0, u "java/lang/Object")] 11

/-- java/time/temporal/TemporalAmount -/
def k3 : Class := { plain "java/time/temporal/TemporalAmount" (some 0) with
  accessFlags := 1537
  interfaces := #[]
  cf := some (fileOf pool3 1 #[] #[] 1537 3 #[] #[])
  fields := #[]
  methods := #[]
  instanceTypes := #[]
  staticTypes := #[]
  resolved := Array.replicate 16 none
  statics := none }

def pool4 : Array CpInfo := pool [(1, .class_ 2), (0, u "java/lang/Comparable"), (0, .class_ 4), (0, u "java/lang/Object")] 7

/-- java/lang/Comparable -/
def k4 : Class := { plain "java/lang/Comparable" (some 0) with
  accessFlags := 1537
  interfaces := #[]
  cf := some (fileOf pool4 1 #[] #[] 1537 3 #[] #[])
  fields := #[]
  methods := #[]
  instanceTypes := #[]
  staticTypes := #[]
  resolved := Array.replicate 12 none
  statics := none }

def pool5 : Array CpInfo := pool [(1, .class_ 2), (0, u "java/io/Serializable"), (0, .class_ 4), (0, u "java/lang/Object")] 2

/-- java/io/Serializable -/
def k5 : Class := { plain "java/io/Serializable" (some 0) with
  accessFlags := 1537
  interfaces := #[]
  cf := some (fileOf pool5 1 #[] #[] 1537 3 #[] #[])
  fields := #[]
  methods := #[]
  instanceTypes := #[]
  staticTypes := #[]
  resolved := Array.replicate 7 none
  statics := none }

def pool6 : Array CpInfo := pool [(11, .class_ 13), (1, u "java/time/Duration"), (20, u "ZERO"), (0, u "Ljava/time/Duration;"), (13, .class_ 51), (1, u "java/time/temporal/TemporalAmount"), (27, .class_ 81), (1, u "java/time/Duration$Lazy"), (35, u "seconds"), (101, .class_ 220), (0, u "java/lang/Object"), (0, .fieldref 11 222), (0, .nameAndType 117 223), (0, u "J"), (0, .fieldref 11 225), (0, .nameAndType 226 227), (0, u "nanos"), (0, u "I"), (11, .class_ 241), (1, u "java/time/Duration$DurationUnits"), (8, u "getSeconds"), (0, u "()J"), (2, u "getNano"), (0, u "()I"), (13, .class_ 271), (1, u "java/time/Duration$1"), (91, u "BI_NANOS_PER_SECOND"), (0, u "Ljava/math/BigInteger;"), (120, .class_ 486), (0, u "java/lang/Comparable"), (0, .class_ 488), (0, u "java/io/Serializable"), (0, u "serialVersionUID")] 166

def k6c0 : Code := { maxStack := 2, maxLocals := 1, code := jdk_2316_method_23_code, exceptionTable := #[], attributes := #[] }
def k6m0 : Method := { name := "getSeconds", desc := "()J", sig := { parameters := [], returnType := some .long }, accessFlags := 1, code := some k6c0 }
def k6c1 : Code := { maxStack := 1, maxLocals := 1, code := jdk_2316_method_24_code, exceptionTable := #[], attributes := #[] }
def k6m1 : Method := { name := "getNano", desc := "()I", sig := { parameters := [], returnType := some .int }, accessFlags := 1, code := some k6c1 }
/-- java/time/Duration -/
def k6 : Class := { plain "java/time/Duration" (some 0) with
  accessFlags := 49
  interfaces := #[3, 4, 5]
  cf := some (fileOf pool6 11 #[.nestMembers #[269, 239, 79]] #[{ accessFlags := 1, nameIndex := 250, descriptorIndex := 251, attributes := #[] }, { accessFlags := 1, nameIndex := 254, descriptorIndex := 255, attributes := #[] }] 49 219 #[49, 485, 487] #[{ accessFlags := 25, nameIndex := 34, descriptorIndex := 35, attributes := #[] }, { accessFlags := 26, nameIndex := 489, descriptorIndex := 223, attributes := #[] }, { accessFlags := 26, nameIndex := 363, descriptorIndex := 364, attributes := #[] }, { accessFlags := 18, nameIndex := 117, descriptorIndex := 223, attributes := #[] }, { accessFlags := 18, nameIndex := 226, descriptorIndex := 227, attributes := #[] }])
  fields := #[{ name := "ZERO", type := (.object "java/time/Duration"), accessFlags := 25, slot := 0, constantValue := 0 }, { name := "serialVersionUID", type := .long, accessFlags := 26, slot := 1, constantValue := 0 }, { name := "BI_NANOS_PER_SECOND", type := (.object "java/math/BigInteger"), accessFlags := 26, slot := 2, constantValue := 0 }, { name := "seconds", type := .long, accessFlags := 18, slot := 0, constantValue := 0 }, { name := "nanos", type := .int, accessFlags := 18, slot := 1, constantValue := 0 }]
  methods := #[k6m0, k6m1]
  instanceTypes := #[.long, .int]
  staticTypes := #[(.object "java/time/Duration"), .long, (.object "java/math/BigInteger")]
  resolved := Array.replicate 656 none
  statics := some 1 }

def pool7 : Array CpInfo := pool [(1, .class_ 2), (0, u "java/lang/Math"), (1, .class_ 6), (1, u "java/lang/Object"), (0, u "<init>"), (0, u "()V"), (89, .class_ 100), (1, u "java/lang/Math$RandomNumberGeneratorHolder"), (71, u "negativeZeroFloatBits"), (0, u "J"), (2, u "negativeZeroDoubleBits"), (24, u "min"), (43, u "$assertionsDisabled"), (0, u "Z"), (88, u "(II)I"), (2, u "twoToTheDoubleScaleDown"), (0, u "D"), (4, u "twoToTheDoubleScaleUp"), (9, u "E"), (3, u "PI"), (2, u "TAU"), (2, u "DEGREES_TO_RADIANS"), (0, u "RADIANS_TO_DEGREES")] 94

def k7m0 : Method := { name := "<init>", desc := "()V", sig := { parameters := [], returnType := none }, accessFlags := 2, code := none }
def k7c1 : Code := { maxStack := 2, maxLocals := 2, code := jdk_29_method_69_code, exceptionTable := #[], attributes := #[] }
def k7m1 : Method := { name := "min", desc := "(II)I", sig := { parameters := [.int, .int], returnType := some .int }, accessFlags := 9, code := some k7c1 }
/-- java/lang/Math -/
def k7 : Class := { plain "java/lang/Math" (some 0) with
  accessFlags := 49
  interfaces := #[]
  cf := some (fileOf pool7 1 #[.nestMembers #[98]] #[{ accessFlags := 2, nameIndex := 7, descriptorIndex := 8, attributes := #[] }, { accessFlags := 9, nameIndex := 201, descriptorIndex := 335, attributes := #[] }] 49 4 #[] #[{ accessFlags := 25, nameIndex := 354, descriptorIndex := 339, attributes := #[] }, { accessFlags := 25, nameIndex := 358, descriptorIndex := 339, attributes := #[] }, { accessFlags := 25, nameIndex := 361, descriptorIndex := 339, attributes := #[] }, { accessFlags := 26, nameIndex := 364, descriptorIndex := 339, attributes := #[] }, { accessFlags := 26, nameIndex := 365, descriptorIndex := 339, attributes := #[] }, { accessFlags := 26, nameIndex := 172, descriptorIndex := 173, attributes := #[] }, { accessFlags := 26, nameIndex := 176, descriptorIndex := 173, attributes := #[] }, { accessFlags := 8, nameIndex := 344, descriptorIndex := 339, attributes := #[] }, { accessFlags := 8, nameIndex := 338, descriptorIndex := 339, attributes := #[] }, { accessFlags := 4120, nameIndex := 245, descriptorIndex := 246, attributes := #[] }])
  fields := #[{ name := "E", type := .double, accessFlags := 25, slot := 0, constantValue := 0 }, { name := "PI", type := .double, accessFlags := 25, slot := 1, constantValue := 0 }, { name := "TAU", type := .double, accessFlags := 25, slot := 2, constantValue := 0 }, { name := "DEGREES_TO_RADIANS", type := .double, accessFlags := 26, slot := 3, constantValue := 0 }, { name := "RADIANS_TO_DEGREES", type := .double, accessFlags := 26, slot := 4, constantValue := 0 }, { name := "negativeZeroFloatBits", type := .long, accessFlags := 26, slot := 5, constantValue := 0 }, { name := "negativeZeroDoubleBits", type := .long, accessFlags := 26, slot := 6, constantValue := 0 }, { name := "twoToTheDoubleScaleUp", type := .double, accessFlags := 8, slot := 7, constantValue := 0 }, { name := "twoToTheDoubleScaleDown", type := .double, accessFlags := 8, slot := 8, constantValue := 0 }, { name := "$assertionsDisabled", type := .boolean, accessFlags := 4120, slot := 9, constantValue := 0 }]
  methods := #[k7m0, k7m1]
  instanceTypes := #[]
  staticTypes := #[.double, .double, .double, .double, .double, .long, .long, .double, .double, .boolean]
  resolved := Array.replicate 460 none
  statics := none }

def pool8 : Array CpInfo := pool [(1, u "java/lang/Cloneable"), (0, .class_ 1), (0, u "java/lang/Object"), (0, .class_ 3)] 3

/-- java/lang/Cloneable -/
def k8 : Class := { plain "java/lang/Cloneable" (some 0) with
  accessFlags := 1537
  interfaces := #[]
  cf := some (fileOf pool8 2 #[] #[] 1537 4 #[] #[])
  fields := #[]
  methods := #[]
  instanceTypes := #[]
  staticTypes := #[]
  resolved := Array.replicate 8 none
  statics := none }

/-- the primitive byte -/
def k9 : Class := { plain "byte" none with kind := .primitive 'B', accessFlags := 0x411 }
/-- [B -/
def k10 : Class := { plain "[B" (some 0) with kind := .array 9 .byte, interfaces := #[8, 5], accessFlags := 1041 }

/-- the primitive int -/
def k11 : Class := { plain "int" none with kind := .primitive 'I', accessFlags := 0x411 }
/-- [I -/
def k12 : Class := { plain "[I" (some 0) with kind := .array 11 .int, interfaces := #[8, 5], accessFlags := 1041 }

/-- [Ljava/time/Duration; -/
def k13 : Class := { plain "[Ljava/time/Duration;" (some 0) with kind := .array 6 (.object "java/time/Duration"), interfaces := #[8, 5], accessFlags := 1041 }

def heap : Heap := #[{ cls := 2, slots := #[.ref 2, .int 18], vm := .statics 2 },
  { cls := 6, slots := #[.ref 21, .long 0, .null], vm := .statics 6 },
  { cls := 13, slots := #[.ref 3, .ref 4, .ref 5, .ref 6, .ref 7, .ref 8, .ref 9, .ref 10, .ref 11, .ref 12, .ref 13, .ref 14, .ref 15, .ref 16, .ref 17, .ref 18, .ref 19, .ref 20], vm := .none },
  { cls := 6, slots := #[.long 1, .int 0], vm := .none },
  { cls := 6, slots := #[.long 5, .int 0], vm := .none },
  { cls := 6, slots := #[.long 10, .int 0], vm := .none },
  { cls := 6, slots := #[.long 30, .int 0], vm := .none },
  { cls := 6, slots := #[.long 60, .int 0], vm := .none },
  { cls := 6, slots := #[.long 120, .int 0], vm := .none },
  { cls := 6, slots := #[.long 180, .int 0], vm := .none },
  { cls := 6, slots := #[.long 240, .int 0], vm := .none },
  { cls := 6, slots := #[.long 300, .int 0], vm := .none },
  { cls := 6, slots := #[.long 360, .int 0], vm := .none },
  { cls := 6, slots := #[.long 420, .int 0], vm := .none },
  { cls := 6, slots := #[.long 480, .int 0], vm := .none },
  { cls := 6, slots := #[.long 540, .int 0], vm := .none },
  { cls := 6, slots := #[.long 600, .int 0], vm := .none },
  { cls := 6, slots := #[.long 1200, .int 0], vm := .none },
  { cls := 6, slots := #[.long 1800, .int 0], vm := .none },
  { cls := 6, slots := #[.long 3600, .int 0], vm := .none },
  { cls := 6, slots := #[.long 7200, .int 0], vm := .none },
  { cls := 6, slots := #[.long 0, .int 0], vm := .none }]
def classes : Array Class := #[k0, k1, k2, k3, k4, k5, k6, k7, k8, k9, k10, k11, k12, k13]
def interned : List (Array UInt16 × Addr) := []
def slotsUsed : Nat := 61
def theMethod : MethodId := ⟨1, 1⟩
def args0 : Array Value := #[.int 5, .int 3]
def aboutOver (below : List Frame) : State where
  vm := { classes := classes, interned := interned.toArray }
  heap := heap
  slotsUsed := slotsUsed
  threads := #[{ frames := .invoking theMethod args0 :: below }]
def below0 : List Frame := [.native { method := ⟨0, 0⟩, args := #[] }]
def about1 : State := aboutOver below0
def p0 : Program := .bare "" "" ""
def e0 : Env := launch0.env 0 0 0
theorem w_frames : about1.frames = Frame.invoking theMethod args0 :: below0 := rfl
set_option maxRecDepth 65536 in
theorem w_args : argsFit about1.vm theMethod args0 = true := by decide +kernel
set_option maxRecDepth 65536 in
theorem w_heap : heapFits about1 = true := by decide +kernel
set_option maxRecDepth 65536 in
theorem w_runnable : about1.curStatus? = some .runnable := by decide +kernel
set_option maxRecDepth 65536 in
theorem w_alone : about1.alone = true := by decide +kernel
set_option maxRecDepth 65536 in
theorem w_named : about1.methodNamed? x = some theMethod := by decide +kernel
set_option maxRecDepth 65536 in
theorem w_hears : about1.hears theMethod below0 = true := by decide +kernel
set_option maxRecDepth 65536 in
theorem w_ripe : about1.ripe theMethod args0 below0 = true := by decide +kernel
theorem w_running : about1.status = .running := rfl
set_option maxRecDepth 65536 in
theorem w_room : about1.hasRoom e0.platform room_1 = true :=
  launch0.hasRoom_least _ room_1 (by decide +kernel) (by decide +kernel) (by decide +kernel) (by decide +kernel) (by decide +kernel) (by decide +kernel)
theorem allAtoms_all (ts : List Jvm.Cond) (a : Array Jvm.Value) (st : Jvm.State) : (allAtoms ts).before a st = ts.all (fun c => c.before a st) := by
  induction ts with
  | nil => rfl
  | cons c t ih =>
    show (Jvm.Cond.and c (allAtoms t)).before a st = _
    rw [Jvm.Cond.before_and, ih, List.all_cons]
def words1 : List Jvm.Cond := Jvm.Cond.code x code maxLocals ret :: tables_1
/-- a 'code' word, met by the world's own term for the bytes: nothing is compared byte by byte -/
theorem code_word {y : MethodName} {bytes : ByteArray} {mx : Nat} {rt : Option FieldType} {a : Array Value} {s : State} {m : MethodId} {meth : Method} {c : Code} (h1 : s.methodNamed? y = some m) (h2 : s.vm.method? m = some meth) (h3 : meth.code = some c) (h4 : c.code = bytes)
    (h5 : (c.maxLocals == mx && c.exceptionTable.isEmpty && decide (c.maxStack ≤ mostOperands) && decide (meth.sig.returnType = rt) && !meth.locks && decide (parseMethodDescriptor y.desc = some meth.sig)) = true) : (Jvm.Cond.code y bytes mx rt).before a s = true := by
  simp only [Bool.and_eq_true, beq_iff_eq, Bool.not_eq_true', decide_eq_true_eq] at h5
  obtain ⟨⟨⟨⟨⟨g1, g2⟩, g3⟩, g4⟩, g5⟩, g6⟩ := h5
  simp [Cond.before, Cond.holds, Cond.value, h1, h2, h3, h4, g1, g2, g3, g4, g5, g6]
def isCode : Jvm.Cond → Bool
  | .code _ _ _ _ => true
  | _ => false
theorem all_split {L : List Jvm.Cond} {P : Jvm.Cond → Bool} (h1 : L.all (fun c => isCode c || P c) = true) (h2 : ∀ c ∈ L.filter isCode, P c = true) : L.all P = true := by
  refine List.all_eq_true.mpr fun c hc => ?_
  have h := List.all_eq_true.mp h1 c hc
  rcases Bool.eq_false_or_eq_true (isCode c) with hi | hi
  · exact h2 c (List.mem_filter.mpr ⟨hc, hi⟩)
  · simpa [hi] using h
set_option maxRecDepth 65536 in
theorem w_c0 : (Jvm.Cond.code x code maxLocals ret).before args0 about1 = true := code_word (m := ⟨1, 1⟩) (meth := k1m1) (c := k1c1) (by decide +kernel) rfl rfl rfl (by decide +kernel)
set_option maxRecDepth 65536 in
theorem w_c1 : (Jvm.Cond.code ({ cls := "com/example/ackorn/ackorn/message/DelayLevel", name := "delayOf", desc := "(I)Ljava/time/Duration;" } : Jvm.MethodName) prog_16_method_3_code (2 : Nat) (Option.some (Jvm.ClassFile.FieldType.object "java/time/Duration"))).before args0 about1 = true := code_word (m := ⟨2, 1⟩) (meth := k2m1) (c := k2c1) (by decide +kernel) rfl rfl rfl (by decide +kernel)
set_option maxRecDepth 65536 in
theorem w_c2 : (Jvm.Cond.code ({ cls := "java/time/Duration", name := "getSeconds", desc := "()J" } : Jvm.MethodName) jdk_2316_method_23_code (1 : Nat) (Option.some Jvm.ClassFile.FieldType.long)).before args0 about1 = true := code_word (m := ⟨6, 0⟩) (meth := k6m0) (c := k6c0) (by decide +kernel) rfl rfl rfl (by decide +kernel)
set_option maxRecDepth 65536 in
theorem w_c3 : (Jvm.Cond.code ({ cls := "com/example/ackorn/ackorn/message/DelayLevelDelayOfPinLaw", name := "expectedSeconds", desc := "(I)J" } : Jvm.MethodName) method_3_code (2 : Nat) (Option.some Jvm.ClassFile.FieldType.long)).before args0 about1 = true := code_word (m := ⟨1, 2⟩) (meth := k1m2) (c := k1c2) (by decide +kernel) rfl rfl rfl (by decide +kernel)
set_option maxRecDepth 65536 in
theorem w_c4 : (Jvm.Cond.code ({ cls := "java/time/Duration", name := "getNano", desc := "()I" } : Jvm.MethodName) jdk_2316_method_24_code (1 : Nat) (Option.some Jvm.ClassFile.FieldType.int)).before args0 about1 = true := code_word (m := ⟨6, 1⟩) (meth := k6m1) (c := k6c1) (by decide +kernel) rfl rfl rfl (by decide +kernel)
set_option maxRecDepth 65536 in
theorem w_c5 : (Jvm.Cond.code ({ cls := "java/lang/Math", name := "min", desc := "(II)I" } : Jvm.MethodName) jdk_29_method_69_code (2 : Nat) (Option.some Jvm.ClassFile.FieldType.int)).before args0 about1 = true := code_word (m := ⟨7, 1⟩) (meth := k7m1) (c := k7c1) (by decide +kernel) rfl rfl rfl (by decide +kernel)
def codes1 : List Jvm.Cond := [Jvm.Cond.code x code maxLocals ret, Jvm.Cond.code ({ cls := "com/example/ackorn/ackorn/message/DelayLevel", name := "delayOf", desc := "(I)Ljava/time/Duration;" } : Jvm.MethodName) prog_16_method_3_code (2 : Nat) (Option.some (Jvm.ClassFile.FieldType.object "java/time/Duration")), Jvm.Cond.code ({ cls := "java/time/Duration", name := "getSeconds", desc := "()J" } : Jvm.MethodName) jdk_2316_method_23_code (1 : Nat) (Option.some Jvm.ClassFile.FieldType.long), Jvm.Cond.code ({ cls := "com/example/ackorn/ackorn/message/DelayLevelDelayOfPinLaw", name := "expectedSeconds", desc := "(I)J" } : Jvm.MethodName) method_3_code (2 : Nat) (Option.some Jvm.ClassFile.FieldType.long), Jvm.Cond.code ({ cls := "java/time/Duration", name := "getNano", desc := "()I" } : Jvm.MethodName) jdk_2316_method_24_code (1 : Nat) (Option.some Jvm.ClassFile.FieldType.int), Jvm.Cond.code ({ cls := "java/lang/Math", name := "min", desc := "(II)I" } : Jvm.MethodName) jdk_29_method_69_code (2 : Nat) (Option.some Jvm.ClassFile.FieldType.int)]
set_option maxRecDepth 65536 in
theorem codes_eq : words1.filter isCode = codes1 := rfl
theorem w_codes : ∀ c ∈ words1.filter isCode, c.before args0 about1 = true := by
  rw [codes_eq]
  intro c hc
  simp only [codes1, List.mem_cons, List.not_mem_nil, or_false] at hc
  rcases hc with rfl | rfl | rfl | rfl | rfl | rfl
  · exact w_c0
  · exact w_c1
  · exact w_c2
  · exact w_c3
  · exact w_c4
  · exact w_c5
set_option maxRecDepth 65536 in
theorem w_t1 : (words1.take 24).all (fun c => isCode c || c.before args0 about1) = true := by decide +kernel
set_option maxRecDepth 65536 in
theorem w_t2 : (words1.drop 24).all (fun c => isCode c || c.before args0 about1) = true := by decide +kernel
theorem w_tables : (allAtoms (Jvm.Cond.code x code maxLocals ret :: tables_1)).before args0 about1 = true := by
  rw [allAtoms_all]
  show words1.all (fun c => c.before args0 about1) = true
  refine all_split ?_ w_codes
  rw [← List.take_append_drop 24 words1, List.all_append, w_t1, w_t2]
  rfl
set_option maxRecDepth 65536 in
theorem w_rest : rest_1_c.before args0 about1 = true := by decide +kernel
set_option maxRecDepth 65536 in
theorem w_case : (Jvm.Cond.and given_1 narrow_1).before args0 about1 = true := by decide +kernel
theorem w_applies : (headSpec (Jvm.Cond.code x code maxLocals ret :: tables_1) room_1).applies x e0.platform about1 = true :=
  (Spec.applies_iff w_frames).mpr ⟨w_running, w_runnable, w_alone, w_named, w_hears, w_ripe, w_room, w_tables⟩
theorem atStart : AtStart classFile x code maxLocals ret World_1 tables_1 room_1 Calls_1 rest_1 Pre_1 launch0 p0 e0 about1 theMethod args0 below0 :=
  ⟨lists_1, trivial, launch0.admits_env _ _ _, launch0.least_env, fairChoices_fair.cas, fairChoices_fair.clock, w_frames, w_args, w_heap, w_applies, trivial, w_rest, w_case⟩
end start1
theorem witness_1 : WitnessClaimed_1 := ⟨start1.p0, start1.e0, start1.about1, start1.theMethod, start1.args0, start1.below0, start1.atStart⟩
end Jvm.Pilot.@@N@@
