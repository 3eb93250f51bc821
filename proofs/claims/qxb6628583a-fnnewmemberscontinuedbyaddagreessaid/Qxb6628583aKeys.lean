import Derived.Test.Qxb6628583aPure
import Derived.Maps.Own
import Derived.Maps.OwnOps
import Derived.Maps.OwnSet
import Derived.Maps.Views
import Derived.DeepKeys4
import Derived.WideKeyEntry
namespace Go.Proofs.Qxb6628583a
open Go.RowKit Go.Maps

theorem laidOut : laidOutB Try.prog = true := by kernel_rfl
theorem row36 : (36 : TypeId) < Try.prog.types.size := of_decide_eq_true (by kernel_rfl)
theorem wide36 : (match Try.prog.underlying 36 with | some (.array _ _) | some (.struct _) => true | _ => false) = true := by rw [Try.underlying36]
theorem klaw : WideMaps.KeyLaw Try.prog 36 := deep_law_laid laidOut (m := 3) (by omega) row36 (by kernel_rfl) wide36
theorem law : Keyed Try.prog 36 := Keyed.of_law klaw
theorem cells36 : Try.prog.cellsOf 36 = 5 := by kernel_rfl
theorem cells9 : Try.prog.cellsOf 9 = 1 := by kernel_rfl
theorem keyType36 : Try.prog.keyType 36 = true := by kernel_rfl
theorem zeroE (w : World) : (zeroValue 3).run Try.prog w = .ok (.int .i64 0) w := by kernel_rfl
theorem types_size : ∃ n, Try.prog.types.size = n + 2 := ⟨Try.prog.types.size - 2, by kernel_rfl⟩

/-- A scope's key, as the reader tells it. -/
def keyL (k : Int) (o t a s : ByteArray) : Lit := .string (keyBytes [.int .i64 k, .string o.data.toList, .string t.data.toList, .string a.data.toList, .string s.data.toList])

theorem cells34 : Try.prog.cellsOf 34 = 1 := by kernel_rfl

theorem keyOf_agg (k : Int) (o t a s : ByteArray) (hk : (Lit.int .i64 k).wf = true) (ho : o.size ≤ maxLen) (ht : t.size ≤ maxLen) (ha : a.size ≤ maxLen) (hs : s.size ≤ maxLen) :
    keyOf Try.prog 36 (.agg #[.int .i64 k, .string o, .string t, .string a, .string s]) = some (keyL k o t a s) := by
  have hf : (Value.agg #[.int .i64 k, .string o, .string t, .string a, .string s]).formed Try.prog 36 = true := by simp [Value.formed, Try.underlying36, cells36]
  unfold keyOf
  rw [Try.underlying36]
  simp only [keyType36, hf, Bool.and_self, if_true]
  obtain ⟨n, hn⟩ := types_size
  rw [hn]
  have e34 : Try.prog.keyLits (n + 2) 34 [.int .i64 k] = some [.int .i64 k] := by unfold Program.keyLits; rw [Try.underlying34]; simp [hk]
  have e9 : ∀ x : ByteArray, x.size ≤ maxLen → Try.prog.keyLits (n + 2) 9 [.string x] = some [.string x.data.toList] := fun x hx => by unfold Program.keyLits; rw [Try.underlying9]; simp [hx]
  unfold Program.keyLits
  rw [Try.underlying36]
  simp only [Value.cells, cells36]
  rw [if_pos ⟨rfl, by kernel_rfl⟩]
  simp only [List.mapM_cons, List.mapM_nil, cells34, cells9, List.drop_zero, List.drop_succ_cons, List.take_succ_cons, List.take_zero, e34, e9 o ho, e9 t ht, e9 a ha, e9 s hs]
  rfl

theorem keyL_inj {k k' : Int} {o t a s o' t' a' s' : ByteArray} (hk : (Lit.int .i64 k).wf = true) (ho : o.size ≤ maxLen) (ht : t.size ≤ maxLen) (ha : a.size ≤ maxLen) (hs : s.size ≤ maxLen)
    (hk' : (Lit.int .i64 k').wf = true) (ho' : o'.size ≤ maxLen) (ht' : t'.size ≤ maxLen) (ha' : a'.size ≤ maxLen) (hs' : s'.size ≤ maxLen) (h : keyL k o t a s = keyL k' o' t' a' s') :
    k = k' ∧ o = o' ∧ t = t' ∧ a = a' ∧ s = s' := by
  have h1 := keyOf_agg k o t a s hk ho ht ha hs
  have h2 := keyOf_agg k' o' t' a' s' hk' ho' ht' ha' hs'
  rw [← h] at h2
  have := law.inj h1 h2
  simpa using this

theorem keyL_isKey (k : Int) (o t a s : ByteArray) : WideAt.IsKeyLit (keyL k o t a s) := trivial

/-- The map's datum behind the keys 'ks', the last first: each bears how often it came. -/
def Dr : List Lit → DataW Unit
  | [] => .map []
  | k :: r => (Dr r).put k (.lit (.int .i64 ((r.countP (·.sameKey k) : Nat) + 1 : Int)))

def AllKeys (ks : List Lit) : Prop := ∀ k ∈ ks, WideAt.IsKeyLit k

theorem Dr_tidy : ∀ ks, AllKeys ks → Tidy (Dr ks)
  | [], _ => tidy_empty
  | k :: r, h => (Dr_tidy r (fun x hx => h x (by simp [hx]))).put (h k (by simp)) _

theorem Dr_at : ∀ (ks : List Lit) (k : Lit), AllKeys ks → WideAt.IsKeyLit k → (Dr ks).atKey k (.lit (.int .i64 0)) = .lit (.int .i64 ((ks.countP (·.sameKey k) : Nat) : Int))
  | [], k, _, _ => rfl
  | x :: r, k, h, hk => by
    have hr : AllKeys r := fun y hy => h y (by simp [hy])
    by_cases e : x = k
    · subst e
      rw [Dr, atKey_put_same (Dr_tidy r hr).isMap hk]
      simp [WideAt.sameKey_self hk]
    · rw [Dr, atKey_put_other (fun e' => e e'.symm), Dr_at r k hr hk]
      simp [sameKey_ne e]

theorem Dr_has : ∀ (ks : List Lit) (k : Lit), AllKeys ks → WideAt.IsKeyLit k → Maps.has (Dr ks) k = ks.any (·.sameKey k)
  | [], k, _, _ => rfl
  | x :: r, k, h, hk => by
    have hr : AllKeys r := fun y hy => h y (by simp [hy])
    by_cases e : x = k
    · subst e
      rw [Dr, has_put_same (Dr_tidy r hr).isMap hk]
      simp [WideAt.sameKey_self hk]
    · rw [Dr, has_put_other (fun e' => e e'.symm), Dr_has r k hr hk]
      simp [sameKey_ne e]

/-- How many different keys there are. -/
def distinct : List Lit → Nat
  | [] => 0
  | k :: r => if r.any (·.sameKey k) then distinct r else distinct r + 1

theorem Dr_size : ∀ (ks : List Lit), AllKeys ks → Maps.size (Dr ks) = distinct ks
  | [], _ => rfl
  | x :: r, h => by
    have hr : AllKeys r := fun y hy => h y (by simp [hy])
    rw [Dr, size_put (Dr_tidy r hr), Dr_has r x hr (h x (by simp)), Dr_size r hr]
    rfl
end Go.Proofs.Qxb6628583a
