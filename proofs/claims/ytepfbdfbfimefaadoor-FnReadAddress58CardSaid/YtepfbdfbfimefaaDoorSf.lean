/- The evaluator is sound: each operation. -/
import Derived.Test.YtepfbdfbfimefaaDoorSd
set_option linter.unusedSimpArgs false
set_option linter.unusedVariables false
namespace Go.Se
open Go

/-- Arithmetic as the model has it. -/
def Ar.real : Ar where
  bin op k x y := match op with
    | .add => k.wrap (x + y)
    | .sub => k.wrap (x - y)
    | .mul => k.wrap (x * y)
    | .quo => k.wrap (x.tdiv y)
    | .rem => x.tmod y
    | .shl => k.wrap (x * 2 ^ min y.toNat k.bits)
    | .shr => x.fdiv (2 ^ min y.toNat k.bits)
    | .and => k.wrap (BitVec.ofInt k.bits x &&& BitVec.ofInt k.bits y).toNat
    | .or => k.wrap (BitVec.ofInt k.bits x ||| BitVec.ofInt k.bits y).toNat
    | .xor => k.wrap (BitVec.ofInt k.bits x ^^^ BitVec.ofInt k.bits y).toNat
    | .andNot => k.wrap (BitVec.ofInt k.bits x &&& ~~~BitVec.ofInt k.bits y).toNat
    | _ => 0
  cmp op x y := match op with
    | .eql => x == y
    | .neq => x != y
    | .lss => x < y
    | .leq => x ≤ y
    | .gtr => x > y
    | .geq => x ≥ y
    | _ => false
  conv k n := k.wrap n
  neg k n := k.wrap (0 - n)
  com k n := k.wrap (BitVec.ofInt k.bits (if k.signed then -1 else k.max) ^^^ BitVec.ofInt k.bits n).toNat
  not b := !b
  beq a b := a == b
  ofNat n := n
  toNat n := n.toNat
  at_ o i z := o + i * z
  sub a b := a - b
  scmp op x y :=
    let eq := x.toList == y.toList
    let lt := Op.bytesLess x.toList y.toList
    match op with
    | .eql => eq
    | .neq => !eq
    | .lss => lt
    | .leq => lt || eq
    | .gtr => !(lt || eq)
    | .geq => !lt
    | _ => false
  cat x y := x ++ y
  sget s i := (s[i.toNat]?.map fun b => (b.toNat : Int)).getD 0
  ssize s := s.size
  ssub s a b := s.extract a b
  elem a n z := (a.getD ⟨0, 0, none⟩).add (n.toNat * z)
  fld a d := a.add d

section
variable {C : Cx} {E : En} {s : St} {ρ : Nat → Nat} {a : Act} {w : World}

theorem does_here {o : Oper} {v : SV} {K : St → Prop} (hs : SRel C E s ρ a w) (hl : lab s.nx v) (h : s.put C o.dst v K)
    (hr : (execOp a.eval o).run C.P w = .ok (.value (val ρ v)) w) : Does C E s ρ o a w K := does_of hr h hs hl (.refl _ _)

theorem run_pure {P : Program} {α : Type} {w : World} (x : α) : (pure x : Sem α).run P w = .ok x w := rfl

theorem isk {k k' : IntKind} (h : (k == k') = true) : k = k' := by simpa using h

theorem intBin_sound {P : Program} (hA : C.A = .real) {op : BinOp} {k k' : IntKind} {x y : Int} {K : SV → Prop} (h : intBin C op k x y K)
    (hk : (isShift op || (k == k')) = true) :
    ∃ r, K (.v r) ∧ (∀ w, (binOp op 0 (.int k x) (.int k' y)).run P w = .ok r w) ∧ ∀ t, binOp op t (.int k x) (.int k' y) = binOp op 0 (.int k x) (.int k' y) := by
  have hkk : isShift op = false → k = k' := fun h0 => by simpa [h0] using hk
  cases op <;> simp only [intBin, hA] at h
  case shl =>
    obtain ⟨h1, h2⟩ := h
    exact ⟨_, h2, fun w => by simp [binOp, Op.shift, show ¬ y < 0 by omega, run_pure, Ar.real], fun t => rfl⟩
  case shr =>
    obtain ⟨h1, h2⟩ := h
    exact ⟨_, h2, fun w => by simp [binOp, Op.shift, show ¬ y < 0 by omega, run_pure, Ar.real], fun t => rfl⟩
  case quo =>
    obtain ⟨h1, h2⟩ := h
    obtain rfl := hkk rfl
    exact ⟨_, h2, fun w => by simp [binOp, Op.intDiv, h1, run_pure, Ar.real], fun t => by simp [binOp]⟩
  case rem =>
    obtain ⟨h1, h2⟩ := h
    obtain rfl := hkk rfl
    exact ⟨_, h2, fun w => by simp [binOp, Op.intDiv, h1, run_pure, Ar.real], fun t => by simp [binOp]⟩
  all_goals
    obtain rfl := hkk rfl
    exact ⟨_, h, fun w => by simp [binOp, Op.intArith, Op.intBits, Op.intCmp, run_pure, Ar.real], fun t => by simp [binOp]⟩
end
end Go.Se
