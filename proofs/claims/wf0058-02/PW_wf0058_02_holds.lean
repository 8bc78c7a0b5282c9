import PyProof.Rows.All
import KE.KItem
import Wide.All
import OpenK.AllK
import Wide.FinOn
import KE.IntBitsLaws
import KE.BitLaws
import Lean
import PySem.Challenge.RW_wf0058_02
set_option Elab.async false
set_option bootstrap.genMatcherCode false
set_option linter.all false
set_option compiler.extract_closed false
set_option genSizeOf false
set_option genInjectivity false
set_option tactic.hygienic false
set_option genCtorIdx false
set_option maxRecDepth 100000
set_option maxHeartbeats 0
noncomputable section
namespace Internal
theorem oYY {α:Type} {a b:α} (h:some a=some b):a=b:=Option.some.inj h
theorem nYY {n m:Nat} (h:Nat.ble n m=true):n ≤ m:=Nat.le_of_ble_eq_true h
open PySem PySem.W PyProof.Rows PySem.Calls
def kwm (s:String):Lean.MacroM Lean.Syntax:=`(tactic| k_extra $(Lean.Syntax.mkStrLit s))
local macro_rules | `(tactic| walk_at $s:str)=>kwm ("." ++ s.getString)
local macro_rules | `(tactic| k_all)=>kwm "k_all"
local macro_rules | `(tactic| k_room)=>kwm "k_room"
local macro_rules | `(tactic| k_units)=>kwm "k_units"
local macro_rules | `(tactic| k_ne)=>kwm "k_ne"
section
namespace Ab
theorem rm2 {a b c d B:Nat} (h:a + b < B) (k:Nat.ble (c + d) b = true):a + c + d < B:=by rw [Nat.add_assoc]; exact Nat.lt_of_le_of_lt (Nat.add_le_add_left (nYY k) a) h
theorem rm1 {a b c B:Nat} (h:a + b < B) (k:Nat.ble c b = true):a + c < B:=Nat.lt_of_le_of_lt (Nat.add_le_add_left (nYY k) a) h
theorem rm0 {a b B:Nat} (h:a + b < B):a < B:=Nat.lt_of_le_of_lt (Nat.le_add_right a b) h
theorem C1d {a b:Nat} (h:a + 1 < b):a < (a + b) / 2:=(Nat.le_div_iff_mul_le (by decide)).mpr (by rw [Nat.mul_two]; show a + 1 + a + 1 ≤ a + b; rw [Nat.add_comm (a + 1) a]; exact Nat.add_le_add_left h a)
theorem B8h {a b:Nat} (h:a + 1 < b):(a + b) / 2 < b:=Nat.div_lt_of_lt_mul (by rw [Nat.two_mul]; exact Nat.add_lt_add_right (Nat.lt_of_succ_lt h) b)
theorem sub3 {a b c:Nat} (h1:a ≤ b) (h2:b ≤ c):c - a = b - a + (c - b):=by rw [Nat.add_comm,Nat.sub_add_sub_cancel h2 h1]
theorem D8y {a b:Nat} (h:a + 1 < b):b - a = (a + b) / 2 - a + (b - (a + b) / 2):=sub3 (Nat.le_of_lt (C1d h)) (Nat.le_of_lt (B8h h))
theorem nabs {b c:Int} (h0:0 ≤ b) (h:b ≤ c):b.natAbs ≤ c.natAbs:=Int.ofNat_le.mp (by rw [Int.natAbs_of_nonneg h0,Int.natAbs_of_nonneg (Int.le_trans h0 h)]; exact h)
theorem D4v {b:Int} {k:Nat} (h0:0 ≤ b) (e:(↑((2:Nat) ^ k):Int) = (2:Int) ^ k) (h:b < (2:Int) ^ k):b.natAbs < 2 ^ k:=Int.ofNat_lt.mp (by rw [Int.natAbs_of_nonneg h0,e]; exact h)
theorem ev0 {a:Nat} (h:¬a % 2 = 1):a % 2 = 0:=(Nat.mod_two_eq_zero_or_one a).resolve_right h
theorem C1e {a b:Nat} (h:a % 2 = b % 2) (e:a / 2 = b / 2):a = b:=by rw [← Nat.div_add_mod a 2,← Nat.div_add_mod b 2,h,e]
theorem C3d {a:Nat} (h:¬a = 0) (h2:¬a % 2 = 1):0 < a / 2:=Nat.pos_of_ne_zero fun e=>h (C1e (b:=0) (ev0 h2) e)
theorem om4:∀ {a b:Nat},a + 1 ≤ b → a < b:=by intros; assumption
theorem om6:∀ {a b:Nat},¬a < b → b ≤ a:=by intros; exact Nat.le_of_not_lt (by assumption)
theorem om7:∀ {a:Nat},a < a + 1:=by intros; exact Nat.lt_succ_self _
theorem om8:∀ {a b:Nat},a + 5 < b → a < b:=by intros; exact Nat.lt_of_le_of_lt (Nat.le_add_right _ _) (by assumption)
theorem om9:∀ {a b:Nat},a + 1 < b → a ≤ (a + b) / 2:=by grind
theorem F1k:∀ {a:Nat},a < 1000 → a ≤ 1000:=by intros; exact Nat.le_of_lt (by assumption)
theorem F1j:∀ {a b:Nat},a < b → a < b:=by intros; simp_all
theorem om14:∀ {a b c d:Nat},a ≤ b → c + 1 < a → d = b → c ≤ b:=by lia
theorem om23:∀ {a:Int},(0:Int) < a → a ≠ (0:Int):=by grind
theorem om24:∀ {a:Nat},0 < a + 1:=by intros; exact Nat.le_add_left _ _
theorem om25:∀ {a b c:Nat},a - b = c + 1 → b < a → a - (b + 1) = c:=fun {a b c} h Z=>by rw [← Nat.sub_sub,h]; rfl
theorem om30:∀ {a b:Nat},a + 1 < b → (a + b) / 2 ≤ b:=by grind
theorem om31:∀ {a b:Nat},a ≤ b → ¬a < b → b ≤ a:=by intros; exact Nat.le_of_not_lt (by assumption)
theorem om34:∀ {a b c d e:Nat},a ≤ b → c + (b + 1) ≤ d → a + c ≤ e ∧ e ≤ a + c → e ≤ d:=by grind
theorem om35:∀ {a b c d:Nat},a ≤ b → a + c ≤ d ∧ d ≤ a + c → c = 1 → d ≤ b + 1:=by grind
theorem om37:∀ {a b:Nat},a + 1 + b = a + (b + 1):=by intros; simp only [Nat.add_assoc,Nat.add_comm,Nat.add_left_comm]
theorem om41:∀ {a b:Nat},a = b → a = b:=by intros; assumption
theorem om42:∀ {a:Int} {b:Nat},a.natAbs ≤ b → b = (100000:Nat) → -(2:Int) ^ (62:Nat) ≤ a:=by intros; subst_vars; grind
theorem om43:∀ {a:Int} {b:Nat},a.natAbs ≤ b → b = (100000:Nat) → a < (2:Int) ^ (62:Nat):=by intros; subst_vars; grind
theorem om44:∀ {a b:Nat},a ≠ b → a < b + 1 → a < b:=by lia
theorem om47:∀ {a b:Nat},a + (b + 1) = a + 1 + b:=by intros; simp only [Nat.add_assoc,Nat.add_comm,Nat.add_left_comm]
theorem om49:∀ {a b:Nat},a ≤ b → a + 1 ≤ b + 1:=by intros; exact Nat.lt_succ_of_le (by assumption)
theorem om50:∀ {a b c d:Nat},a + 74 < b → c ≤ 6 → d ≤ 6 → a + min c d < b:=fun {a b c d} h1 h2 Z=>Nat.lt_of_le_of_lt (Nat.add_le_add_left (Nat.le_trans (Nat.min_le_left c d) (Nat.le_trans h2 (by decide))) a) h1
theorem om54:∀ {a:Nat},¬(↑a:Int) < (0:Int):=by intros; simp_all
theorem om55:∀ {a b c:Nat},a ≤ b → a = c → (↑b:Int) < (2:Int) ^ (63:Nat) → (↑c:Int) < (2:Int) ^ (63:Nat):=by lia
theorem om57:∀ {a b c:Nat},a < b → a < c → b + 1 - c < b + 1 - a:=fun h1 h2=>Nat.sub_lt_sub_left (Nat.lt_succ_of_lt h1) h2
theorem om58:∀ {a b c:Nat},a ≤ b → b < c → a ≤ c:=by lia
theorem om59:∀ {a b:Nat},a ≤ 300 → (b + a) / 2 - b ≤ 300:=fun {a b} h=>Nat.le_trans (Nat.sub_le_sub_right (Nat.div_le_self _ 2) b) (by rw [Nat.add_sub_cancel_left]; exact h)
theorem om60:∀ {a:Nat},a + 1 - a = 1:=by intros; exact Nat.add_sub_cancel_left ..
theorem om61:∀ {a b c d e:Int},a < b → c + a = (-1:Int) - d → d = e + (b - (1:Int) - a) → (0:Int) ≤ b - (1:Int) - a:=by intros; simp +arith only at *; omega
theorem om62:∀ {a b c d:Int},(0:Int) ≤ a → b + a = (-1:Int) - c → d - (1:Int) - a < d:=by intros; simp +arith only at *; omega
theorem om63:∀ {a b:Nat},a < b → b + 1 - (a + 1) < b + 1 - a:=fun h=>Nat.sub_lt_sub_left (Nat.lt_succ_of_lt h) (Nat.lt_succ_self _)
theorem om64:∀ {a:Nat},(0:Nat) < a → a < (1000:Nat) → (0:Int) < (↑a:Int):=by intros; simp; omega
theorem om65:∀ {a:Nat},(0:Nat) < a → a < (1000:Nat) → (↑a:Int) < (1000:Int):=by lia
theorem om72:∀ {a b:Nat},(↑a:Int) + (1:Int) = (↑b:Int) → b = a + (1:Nat):=by grind
theorem om73:∀ {a b:Nat},a < b → (↑a:Int) + (1:Int) ≠ (↑b:Int) → a + (1:Nat) < b:=by grind
theorem om74:∀ {a b:Nat},a + 1 < b → b ≤ 1 + a → False:=by lia
theorem om75:∀ {a:Nat},a ≠ 0 → a = a - 1 + 1:=fun h=>(Nat.sub_add_cancel (Nat.pos_of_ne_zero h)).symm
theorem om76:∀ {a b c:Nat},a - b ≤ 2 ^ c * 2 → a - b ≤ 2 * 2 ^ c:=by intros; simp +arith only at *; omega
theorem om77:∀ {a:Nat},a < 1000 → a < 1000:=by intros; simp_all
theorem om78:∀ {a b:Nat},a + 1 < b → a < (a + b) / 2:=C1d
theorem om79:∀ {a b c:Nat},a ≤ b → c + 1 < a → (c + a) / 2 ≤ b:=fun h1 h2=>Nat.le_trans (Nat.le_of_lt (B8h h2)) h1
theorem om80:∀ {a b c:Nat},a + 1 < b → b - a ≤ 2 ^ (c + 1) → (a + b) / 2 - a ≤ 2 ^ c:=by intros; simp_all; omega
theorem om81:∀ {a b:Nat},a + 1 < b → (a + b) / 2 < b:=by grind
theorem om82:∀ {a b c:Nat},a + 1 < b → b - a ≤ 2 ^ (c + 1) → b - (a + b) / 2 ≤ 2 ^ c:=by intros; simp_all; omega
theorem om85:∀ {a b c:Nat},a = b → c = b → c ≤ b:=by intros; exact Nat.le_of_eq (by assumption)
theorem om90:∀ {a:Nat},a ≤ (1000:Nat) → (↑a:Int) ≤ (16384:Int):=by lia
theorem om105:∀ {a b:Nat},a ≤ 900 → a = b → b ≤ 1000:=by lia
theorem om107:∀ {a b:Nat},a + 1 ≤ 901 → a = b → b ≤ 1000:=by lia
theorem om108:∀ {a b:Nat},a + 1 ≤ 901 → a = b → a ≤ 901:=by intros; exact Nat.le_of_lt (by assumption)
theorem om109:∀ {a:Nat} {b:Prop},a ≤ 900 ∧ b → a ≤ 1000:=by lia
theorem D8i:∀ {a:Int} {b:Prop},(0:Int) < a → a = (0:Int) → b:=by intros; simp_all
theorem D8h:∀ {a:Int},-a - (1:Int) = (-1:Int) - a:=by intros; simp +arith at *
theorem om153:∀ {a b:Nat},a % 2 = 1 → b = 0 → b ≠ a:=by intros; subst_vars; grind
theorem om154:∀ {a b:Nat},a < b + 1 → a % 2 = 1 → a / 2 < b:=fun h1 h2=>Nat.lt_of_lt_of_le (Nat.div_lt_self (Nat.pos_of_ne_zero (fun e=>by rw [e] at h2; exact nomatch h2)) (by decide)) (Nat.le_of_lt_succ h1)
theorem om155:∀ {a b:Nat},a % 2 = 1 → b % 2 = 1 → b = a → b / 2 = a / 2:=by intros; solve_by_elim (maxDepth:=4) [Nat.lt_of_lt_of_le,Nat.le_trans,Nat.lt_of_le_of_lt,Nat.le_of_lt,Nat.lt_succ_of_le,Nat.succ_le_of_lt,Nat.ne_of_lt,Nat.ne_of_gt,Nat.le_of_lt_succ,Nat.lt_of_succ_le,Nat.not_lt,Nat.le_of_not_lt,Nat.lt_of_not_le,Int.le_trans,Int.le_of_lt,Int.lt_of_lt_of_le]
theorem om156:∀ {a b:Nat},a % 2 = 1 → b % 2 = 1 → ¬b = a → ¬b / 2 = a / 2:=fun h1 h2 h3 h4=>h3 (C1e (h2.trans h1.symm) h4)
theorem om157:∀ {a b:Nat},¬a = 0 → ¬a % 2 = 1 → b = 0 → b ≠ a:=by intros; subst_vars; grind
theorem om158:∀ {a b c:Nat},a < b + 1 → ¬a = 0 → ¬a % 2 = 1 → ¬c = 0 → ¬c % 2 = 1 → a / 2 - 1 < b:=fun h1 h2 Z Z Z=>Nat.lt_of_le_of_lt (Nat.sub_le _ _) (Nat.lt_of_lt_of_le (Nat.div_lt_self (Nat.pos_of_ne_zero h2) (by decide)) (Nat.le_of_lt_succ h1))
theorem om159:∀ {a b:Nat},a = b → a / 2 - 1 = b / 2 - 1:=by intros; subst_vars; simp
theorem om160:∀ {a b:Nat},¬a = 0 → ¬a % 2 = 1 → ¬b = 0 → ¬b % 2 = 1 → ¬b = a → ¬b / 2 - 1 = a / 2 - 1:=fun h1 h2 h3 h4 h5 h6=>h5 (C1e ((ev0 h4).trans (ev0 h2).symm) (by rw [← Nat.sub_add_cancel (C3d h3 h4),h6,Nat.sub_add_cancel (C3d h1 h2)]))
theorem om161:∀ {a b c:Nat},a ≤ a + b + c:=by intros; simp +arith at *
theorem om162:∀ {a b c d e f:Nat},a ≤ b + c + d + e + d → f = a → a ≤ b + (c + (d + e)) + d:=by intros; simp +arith only at *; omega
theorem om163:∀ {a b c d e:Nat},a ≤ b → c ≤ b → b = 100000 → 200000 ≤ d → e ≤ 0 + a + c → e ≤ d:=by intros; subst_vars; grind
theorem om164:∀ {a:Nat} {b:Prop},a + 1 = 0 → b:=by intros; simp_all
theorem om165:∀ {a b:Nat},a + 1 = b + 1 → a = b:=by intros; simp_all
theorem om166:∀ {a b:Int},a < b → (↑(b - a).toNat:Int) - (↑(0:Nat):Int) = b - a:=fun {a b} h=>by rw [Int.toNat_of_nonneg (Int.sub_nonneg.mpr (Int.le_of_lt h))]; exact Int.sub_zero _
theorem om167:∀ {a b:Int},¬a < b → (↑(b - a).toNat:Int) - (↑(0:Nat):Int) = (0:Int):=by grind
theorem om168:∀ {a:Nat},a ≤ 20 → a < 30:=by intros; exact Nat.lt_of_le_of_lt (by assumption) (by decide)
theorem om171:∀ {a b:Nat} {c:Prop},a = b + 1 → a ≤ b → c:=by intros; subst_vars; grind
theorem om172:∀ {a b c:Nat},a + 100 + b.succ < c → a < c:=by grind
theorem om173:∀ {a b c:Nat},a + 100 + b.succ < c → a + 1 + 100 + b < c:=by intros; simp +arith only at *; omega
theorem om174:∀ {a b c:Nat},a + 3 * (100 + b.succ) < c → a + 3 + 3 * (100 + b) < c:=by intros; simp +arith only at *; omega
theorem om176:∀ {a b c d e f:Nat},a ≤ b → c ≤ d → b + d ≤ (1000000:Nat) → (a > e ∧ c > e) ∧ (↑a:Int) + (↑c:Int) > (↑f:Int) → (1000000:Int) ≤ (↑f:Int) → False:=by grind
theorem om189:∀ {a b c:Nat},a + 3 * (100 + b) < c → a + 64 + 10 < c:=by grind
theorem om192:∀ {a:Int},(0:Int) - a = -a:=by intros; simp_all
theorem om193:∀ {a b c:Nat},a = b → a < c → b < c:=by intros; subst_vars; omega
theorem om196:∀ {a b c:Nat},a - 1 - b = c → b < a → c < a:=fun {a b c} h1 h2=>Nat.lt_of_le_of_lt (h1 ▸ Nat.sub_le _ _) (Nat.sub_lt (Nat.lt_of_le_of_lt (Nat.zero_le b) h2) Nat.one_pos)
theorem om197:∀ {a b:Nat} {c:Int} {d:Nat},a = (100000:Nat) → b ≤ a → (0:Int) ≤ c → c.toNat = d → d < b → (-9223372036854775808:Int) ≤ c ∧ c < (9223372036854775808:Int):=by lia
theorem om198:∀ {a b:Nat} {c:Int},a = (100000:Nat) → b ≤ a → c < (0:Int) → -(↑b:Int) ≤ c → (-9223372036854775808:Int) ≤ c ∧ c < (9223372036854775808:Int):=by lia
theorem om199:∀ {a:Int} {b c:Nat},(0:Int) ≤ a → a.toNat = b → b < c → a < (↑c:Int):=by intros; subst_vars; simp_all
theorem om200:∀ {a b c:Nat} {d:Int} {e:Nat},a = (300000:Nat) → b ≤ a → b = c → d.toNat = e → e < b → d < (2:Int) ^ (63:Nat):=by lia
theorem om201:∀ {a b:Nat} {c:Int},a = b → -(↑a:Int) ≤ c → -(↑b:Int) ≤ c:=by intros; subst_vars; omega
theorem om202:∀ {a b c:Nat} {d:Int},a = (300000:Nat) → b ≤ a → b = c → -(↑b:Int) ≤ d → -(2:Int) ^ (63:Nat) ≤ d:=by intros; subst_vars; grind
theorem om203:∀ {a b c:Nat},(↑a:Int) = max (0:Int) (min (↑b:Int) (↑c:Int)) → b ≤ c → b = a:=fun {a b c} h h2=>by rw [Int.min_eq_left (Int.ofNat_le.mpr h2),Int.max_eq_right (Int.natCast_nonneg _)] at h; exact (Int.ofNat.inj h).symm
theorem om204:∀ {a b c:Nat},(↑a:Int) = max (0:Int) (min (↑b:Int) (↑c:Int)) → ¬b ≤ c → c = a:=fun {a b c} h h2=>by rw [Int.min_eq_right (Int.ofNat_le.mpr (Nat.le_of_lt (Nat.lt_of_not_le h2))),Int.max_eq_right (Int.natCast_nonneg _)] at h; exact (Int.ofNat.inj h).symm
theorem om206:∀ {a b c:Nat},min (a - b) (c - b) ≤ c:=Nat.le_trans (Nat.min_le_right _ _) (Nat.sub_le _ _)
theorem om207:∀ {a b c d:Nat} {e:Int},a - b = c → (↑d:Int) = max (0:Int) (min e (↑c:Int)) → d ≤ c:=fun Z h=>Int.ofNat_le.mp (h ▸ Int.max_le.mpr ⟨Int.natCast_nonneg _,Int.min_le_right _ _⟩)
theorem om208:∀ {a b c:Nat},a - b = c → a ≤ c → min (a - b) (c - b) = c:=fun {a b c} h1 h2=>by have e:a = c:=Nat.le_antisymm h2 (h1 ▸ Nat.sub_le a b); subst e; rw [Nat.min_self]; exact h1
theorem om209:∀ {a b c d:Nat},a = b → min (c - d) (b - d) = b → ¬b = 0 → d = 0:=fun {a b c d} Z h2 h3=>Nat.eq_zero_of_not_pos fun hd=>absurd (Nat.sub_lt (Nat.pos_of_ne_zero h3) hd) (Nat.not_lt.mpr (Nat.le_trans (Nat.le_of_eq h2.symm) (Nat.min_le_right _ _)))
theorem om210:∀ {a b c:Nat},a = b → min (c - 0) (b - 0) = b → ¬b = 0 → b ≤ c - 0:=by lia
theorem om211:∀ {a b c d:Nat},a = 300000 → a + a ≤ b → c ≤ a → c = d → d ≤ b:=by intros; subst_vars; grind
theorem om212:∀ {a b c d:Nat},a = 300000 → b ≤ c → c ≤ a → c = d → b ≤ a:=by intros; solve_by_elim (maxDepth:=4) [Nat.lt_of_lt_of_le,Nat.le_trans,Nat.lt_of_le_of_lt,Nat.le_of_lt,Nat.lt_succ_of_le,Nat.succ_le_of_lt,Nat.ne_of_lt,Nat.ne_of_gt,Nat.le_of_lt_succ,Nat.lt_of_succ_le,Nat.not_lt,Nat.le_of_not_lt,Nat.lt_of_not_le,Int.le_trans,Int.le_of_lt,Int.lt_of_lt_of_le]
theorem om220:∀ {a b:Nat},a + 1 ≤ b → a ≤ b:=by intros; exact Nat.le_of_lt (by assumption)
theorem om225:∀ {a b c d:Nat},a ≤ b → a = c → b = 100000 → b ≤ d → c ≤ d:=by lia
theorem om226:∀ {a b c d:Nat},a ≤ b → a = c → b = 100000 → d = 300000 → a + 1 ≤ d:=by lia
theorem om234:∀ {a:Nat},(1:Int) + (↑a:Int) = (↑a:Int) + (1:Int):=by intros; simp +arith at *
theorem D8g:∀ {a b c:Nat},a + 100 + b < c → a + 60 < c:=by grind
theorem D8f:∀ {a b c:Nat},a + 3 * (100 + b) < c → a + 3 * 60 < c:=fun {a b c} h=>Nat.lt_of_le_of_lt (Nat.add_le_add_left (Nat.mul_le_mul_left 3 (Nat.le_trans (by decide) (Nat.le_add_right 100 b))) a) h
theorem om238:∀ {a b c:Nat},a + (b + 1) < c → a + b < c:=by intros; exact Nat.le_of_lt (by assumption)
theorem om239:∀ {a b c:Nat},a + 3 * (b + 1) < c → a + 1 + 3 * b < c:=by lia
theorem om240:∀ {a b:Nat} {c:Prop},a < b → b ≤ a → c:=by lia
theorem om241:9 ≤ 11:=by intros; exact Nat.le_add_left _ _
theorem om242:∀ {a b:Nat},a ≤ b → b ≤ a → ¬a < b:=by intros; simp +arith only at *; omega
theorem om243:∀ {a b:Nat},a ≤ b → b ≤ a → a = b:=by lia
theorem om244:∀ {a b c d:Nat},a ≤ b → c + b < d → c + a < d:=by grind
theorem om245:∀ {a b c d:Nat},a ≤ b → c + 3 * b < d → c + 3 * a < d:=by grind
theorem om247:∀ {a b:Nat},a + 1 + b = a + b + 1:=by intros; simp only [Nat.add_assoc,Nat.add_comm,Nat.add_left_comm]
theorem om251:∀ {a b c:Nat},a + b = c → (↑c:Int) + (↑a:Int) - (2:Int) * (↑a:Int) = (↑b:Int):=by intros; subst_vars; grind
theorem om252:∀ {a b:Nat},((↑a:Int) + (↑b:Int)) / (2:Int) = (↑((a + b) / (2:Nat)):Int):=by intros; solve_by_elim (maxDepth:=4) [Nat.lt_of_lt_of_le,Nat.le_trans,Nat.lt_of_le_of_lt,Nat.le_of_lt,Nat.lt_succ_of_le,Nat.succ_le_of_lt,Nat.ne_of_lt,Nat.ne_of_gt,Nat.le_of_lt_succ,Nat.lt_of_succ_le,Nat.not_lt,Nat.le_of_not_lt,Nat.lt_of_not_le,Int.le_trans,Int.le_of_lt,Int.lt_of_lt_of_le]
theorem om253:∀ {a b:Nat},a < b → a ≤ (a + b) / 2:=by grind
theorem om254:∀ {a b:Nat},a ≤ 300 → b < a → a - b ≤ 300:=by intros; simp_all; omega
theorem om255:∀ {a:Int} {b:Nat} {c:Int},a < (2:Int) ^ b → (0:Int) ≤ c → c ≤ a → (↑((2:Nat) ^ b):Int) = (2:Int) ^ b → c.natAbs < (2:Nat) ^ b:=by lia
theorem om256:∀ {a b c:Nat},a ≤ (1000:Nat) * (300:Nat) → b ≤ (300:Nat) * (1000:Nat) → c ≤ a → (↑c:Int) + (↑b:Int) ≤ (2:Int) ^ (27:Nat):=by grind
theorem om257:∀ {a b c d:Nat},a ≤ b → c = d - a → a ≤ d → d ≤ min a b + c:=by intros; simp_all
theorem om258:∀ {a b c d:Nat},a ≤ b → c = d - a → a ≤ d → min a b + c ≤ d:=by intros; simp_all
theorem om259:∀ {a b c d e:Nat},a ≤ b → c = d - a → a ≤ d → d ≤ e → min a b + c ≤ e:=by intros; simp_all
theorem om260:∀ {a b c d e:Nat},a ≤ b → c = d - a → a ≤ d → d ≤ e → d + (e - (min a b + c)) = e:=by intros; simp_all
theorem om261:∀ {a:Nat},a < (2:Nat) ^ (62:Nat) → (↑a:Int) < (2:Int) ^ (63:Nat):=by lia
theorem om262:∀ {a b:Nat},(0:Nat) < a → (↑b:Int) + (↑a:Int) - (1:Int) = (↑(b + a - (1:Nat)):Int):=fun {a b} h=>by rw [Int.ofNat_sub (Nat.le_trans h (Nat.le_add_left a b))]; rfl
theorem om263:∀ {a b c d:Nat},a + b = c + d - 1 → b < d → c ≤ a:=fun {a b c d} e h=>Nat.le_of_add_le_add_right (b:=b) (by rw [e]; exact Nat.le_sub_one_of_lt (Nat.add_lt_add_left h c))
theorem om264:∀ {a:Int} {b:Nat},(0:Int) ≤ a → a.natAbs < (2:Nat) ^ b → (↑((2:Nat) ^ b):Int) = (2:Int) ^ b → a < (2:Int) ^ b:=fun h1 h2 h3=>by have:=Int.ofNat_lt.mpr h2; rw [Int.natAbs_of_nonneg h1,h3] at this; exact this
theorem om265:∀ {a b:Nat},0 < a → b ≤ a + b - 1:=fun {a b} h=>by rw [Nat.add_comm]; exact Nat.le_sub_one_of_lt (Nat.lt_add_of_pos_right h)
theorem om266:∀ {a:Nat},0 < a → 0 + a - 1 < a:=fun {a} h=>by rw [Nat.zero_add]; exact Nat.sub_lt h Nat.one_pos
theorem om267:∀ {a:Int} {b:Nat},a < (2:Int) ^ b → a ≤ (2:Int) ^ b - (1:Int):=by intros; simp +arith only at *; omega
theorem om268:∀ {a b:Int},(0:Int) ≤ a → (0:Int) ≤ b → (0:Int) ≤ a + b:=by grind
theorem om269:∀ {a:Int} {b:Nat} {c d:Int},a < (2:Int) ^ b → c ≤ d - (2:Int) ^ b → a + c < d:=by grind
theorem om270:∀ {a b c:Nat},a ≤ b → b ≤ c → c - a = b - a + (c - b):=sub3
theorem om271:∀ {a b c:Nat},a ≤ b → b ≤ c → a + (b - a) = b:=by intros; simp_all
theorem om272:∀ {a:Int} {b:Nat},(0:Int) ≤ a → a < (2:Int) ^ b → (↑((2:Nat) ^ b):Int) = (2:Int) ^ b → a.natAbs < (2:Nat) ^ b:=fun h1 h2 h3=>D4v h1 h3 h2
theorem om273:∀ {a b c:Nat},a ≤ (300000:Nat) → b ≤ c → c ≤ (1000:Nat) * (300:Nat) → (↑b:Int) + (↑a:Int) ≤ (2:Int) ^ (27:Nat):=by grind
theorem om274:∀ {a:Nat},a ≤ 300 * 1000 → a ≤ 300000:=by intros; assumption
theorem om275:∀ {a:Int},(0:Int) ≤ a → a < (1:Int) → (0:Int) = a:=by lia
theorem om276:∀ {a b c:Int},a + b = c → b + a = c:=by intros; simp +arith only at *; omega
theorem om277:∀ {a b c:Int},a + b + c = b + c + a:=by intros; simp +arith at *
theorem om278:∀ {a:Nat},a ≤ a - 0:=by intros; solve_by_elim (maxDepth:=4) [Nat.lt_of_lt_of_le,Nat.le_trans,Nat.lt_of_le_of_lt,Nat.le_of_lt,Nat.lt_succ_of_le,Nat.succ_le_of_lt,Nat.ne_of_lt,Nat.ne_of_gt,Nat.le_of_lt_succ,Nat.lt_of_succ_le,Nat.not_lt,Nat.le_of_not_lt,Nat.lt_of_not_le,Int.le_trans,Int.le_of_lt,Int.lt_of_lt_of_le]
theorem om279:∀ {a b:Nat},a < b → b - 1 - a < b → b - (a + 1) = b - 1 - a:=by grind
theorem om280:∀ {a b:Nat},a < b → b - 1 - a < b → b - 1 - a + 1 = b - a:=fun {a b} h Z=>by rw [Nat.sub_right_comm]; exact Nat.sub_add_cancel (Nat.sub_pos_of_lt h)
theorem om281:∀ {a b:Int},(0:Int) ≤ a → (0:Int) ≤ b → (0:Int) ≤ b + a:=by grind
theorem om282:∀ {a b:Int},a < b → a ≤ b - (1:Int):=by intros; simp +arith only at *; omega
theorem om283:∀ {a:Int} {b:Nat} {c d:Int},a < (2:Int) ^ b → c ≤ d - (2:Int) ^ b → c + a < d:=by grind
theorem om284:∀ {a:Int} {b:Nat} {c:Int},a < (2:Int) ^ b → c < a → c ≤ (2:Int) ^ b - (1:Int):=by lia
theorem om285:∀ {a:Int} {b:Nat} {c:Int},(0:Int) ≤ a → a < (2:Int) ^ b → (0:Int) ≤ c → c ≤ (2:Int) ^ (b + b) - (2:Int) ^ b → (↑((2:Nat) ^ (b + b)):Int) = (2:Int) ^ (b + b) → (c + a).natAbs < (2:Nat) ^ (b + b):=fun h1 h2 h3 h4 h5=>D4v (Int.add_nonneg h3 h1) h5 (Int.lt_of_lt_of_le (Int.add_lt_add_of_le_of_lt h4 h2) (by rw [Int.sub_add_cancel]; exact Int.le_refl _))
theorem om286:∀ {a:Int} {b:Nat},(0:Int) < a → a.natAbs < (2:Nat) ^ b → (↑((2:Nat) ^ b):Int) = (2:Int) ^ b → a < (2:Int) ^ b:=by lia
theorem om287:∀ {a:Nat},a + 1 < 1000 → a < 9000:=by lia
theorem om288:∀ {a:Int} {b:Nat} {c:Int},a < (2:Int) ^ b → (0:Int) ≤ c → c < a → (↑((2:Nat) ^ b):Int) = (2:Int) ^ b → c.natAbs < (2:Nat) ^ b:=fun h1 h2 h3 h4=>D4v h2 h4 (Int.lt_trans h3 h1)
theorem om289:∀ {a b:Nat},a < (1000:Nat) → b ≤ a → (↑b:Int) + (↑a:Int) ≤ (2:Int) ^ (27:Nat):=by grind
theorem om290:∀ {a b:Nat},0 < a → b ≤ 256 * a → b + a - 1 < 257 * a:=fun {a b} h1 h2=>Nat.lt_of_lt_of_le (Nat.sub_lt (Nat.add_pos_right b h1) Nat.one_pos) (by rw [show 257 * a = 256 * a + a from Nat.succ_mul 256 a]; exact Nat.add_le_add_right h2 a)
theorem om291:∀ {a:Nat},a < 257 → a ≤ 256:=by intros; solve_by_elim (maxDepth:=4) [Nat.lt_of_lt_of_le,Nat.le_trans,Nat.lt_of_le_of_lt,Nat.le_of_lt,Nat.lt_succ_of_le,Nat.succ_le_of_lt,Nat.ne_of_lt,Nat.ne_of_gt,Nat.le_of_lt_succ,Nat.lt_of_succ_le,Nat.not_lt,Nat.le_of_not_lt,Nat.lt_of_not_le,Int.le_trans,Int.le_of_lt,Int.lt_of_lt_of_le]
theorem om292:∀ {a:Int} {b:Nat},a < (0:Int) → a.natAbs < (2:Nat) ^ b → ((-1:Int) - a).natAbs < (2:Nat) ^ b:=by grind
theorem om293:∀ {a b c d:Int},a + b = (-1:Int) - c → c = (-1:Int) * d - a + (d - (1:Int) - b):=by intros; simp +arith only at *; omega
theorem om294:∀ {a b c:Int},(-1:Int) - a = (0:Int) + ((-1:Int) - a) ∧ b + ((-1:Int) - c) = b - (1:Int) - c:=by intros; simp +arith at *
theorem om295:∀ {a b:Nat},a - b = 0 → b ≤ a → b = a:=by grind
theorem om296:∀ {a b c:Nat},a - b = c + 1 → b ≤ a → b < a:=fun e Z=>Nat.lt_of_sub_eq_succ e
theorem om297:∀ {a b:Nat},a + b + 1 = a + (b + 1):=by intros; solve_by_elim (maxDepth:=4) [Nat.lt_of_lt_of_le,Nat.le_trans,Nat.lt_of_le_of_lt,Nat.le_of_lt,Nat.lt_succ_of_le,Nat.succ_le_of_lt,Nat.ne_of_lt,Nat.ne_of_gt,Nat.le_of_lt_succ,Nat.lt_of_succ_le,Nat.not_lt,Nat.le_of_not_lt,Nat.lt_of_not_le,Int.le_trans,Int.le_of_lt,Int.lt_of_lt_of_le]
theorem om298:∀ {a b c d e:Nat},a + b ≤ c → d = a + e → e < b → a + e ≤ c:=by grind
theorem om299:∀ {a b c d e:Nat},a + b ≤ c → d = a + e → e < b → a + e + 1 ≤ c + 1:=by grind
theorem om301:∀ {a b:Nat},a = b + 1 → b < a:=by intros; subst_vars; simp
theorem om302:∀ {a b:Nat},a = b → a = b + 1 + 1 → False:=by intros; subst_vars; grind
theorem om303:∀ {a b:Nat},a = b → a = b + 1 + 1 + 1 → False:=by intros; subst_vars; grind
theorem om304:∀ {a:Nat},a ≤ a + 1 + 1:=by intros; solve_by_elim (maxDepth:=4) [Nat.lt_of_lt_of_le,Nat.le_trans,Nat.lt_of_le_of_lt,Nat.le_of_lt,Nat.lt_succ_of_le,Nat.succ_le_of_lt,Nat.ne_of_lt,Nat.ne_of_gt,Nat.le_of_lt_succ,Nat.lt_of_succ_le,Nat.not_lt,Nat.le_of_not_lt,Nat.lt_of_not_le,Int.le_trans,Int.le_of_lt,Int.lt_of_lt_of_le]
theorem om306:∀ {a b c:Nat},a ≤ b → c = b → ¬a < b → a = b:=by lia
theorem om307:∀ {a b c:Nat},a ≤ b → c = b → ¬a < b → c ≤ a:=by intros; subst_vars; simp_all
theorem om308:∀ {a b c:Nat},a < b → b < c → c ≠ a:=by lia
theorem om309:∀ {a b c:Nat},a < b → b < c → ¬a = b ∧ ¬a = c + 2 ∧ ¬a = c + 1:=fun {a b c} h1 h2=>have h:=Nat.lt_trans h1 h2; ⟨Nat.ne_of_lt h1,Nat.ne_of_lt (Nat.lt_add_right 2 h),Nat.ne_of_lt (Nat.lt_add_right 1 h)⟩
theorem om310:∀ {a b:Nat},a < b → (¬a = b + 2 ∧ ¬a = b + 1) ∧ ¬b + 2 = b + 1:=by grind
theorem om311:∀ {a b:Nat},a < b → ¬b = a ∧ ¬b = b + 2 ∧ ¬b = b + 1:=by grind
theorem om312:∀ {a b c:Nat},a < b → c < a → ¬c = b ∧ ¬c = a ∧ ¬c = b + 2 ∧ ¬c = b + 1:=fun {a b c} h1 h2=>have h:=Nat.lt_trans h2 h1; ⟨Nat.ne_of_lt h,Nat.ne_of_lt h2,Nat.ne_of_lt (Nat.lt_add_right 2 h),Nat.ne_of_lt (Nat.lt_add_right 1 h)⟩
theorem om313:∀ {a b c d:Nat},a < b → b < c → d = b ∨ d = c + 2 ∨ d = c + 1 → a < d:=fun {a b c d} h1 h2 h=>have q:=Nat.lt_trans h1 h2; h.elim (fun e=>e ▸ h1) fun h=>h.elim (fun e=>e ▸ Nat.lt_add_right 2 q) fun e=>e ▸ Nat.lt_add_right 1 q
theorem om314:∀ {a b:Nat} {c:Prop},a - b = 0 → b < a → c:=fun h1 h2=>absurd (Nat.sub_pos_of_lt h2) (h1 ▸ Nat.lt_irrefl 0)
theorem om315:∀ {a b:Nat},a < b → a + 1 ≤ b:=by intros; assumption
theorem om316:∀ {a b c:Nat},a ≤ b → b - a = c + 1 → b - (c + 1 - 1 + 1) = a:=fun {a b c} h e=>by show b - (c + 1) = a; rw [← e]; exact Nat.sub_sub_self h
theorem om317:∀ {a b c:Nat},a ≤ b → b - a = c + 1 → a < b:=fun Z e=>Nat.lt_of_sub_eq_succ e
theorem om318:∀ {a b:Nat},a ≤ b → b - a = 0 → a = b:=by grind
theorem om319:∀ {a:Nat} {b:Int},a ≤ (256:Nat) → b = (↑a:Int) → (↑a:Int) ≤ (256:Int):=by lia
theorem om330:∀ {a b:Nat},a ≤ 300 → b + 1 ≤ a → b < 2 ^ 62:=by lia
theorem om331:∀ {a b:Nat},a ≤ b → b ≤ 300 → a ≤ 300:=by intros; solve_by_elim (maxDepth:=4) [Nat.lt_of_lt_of_le,Nat.le_trans,Nat.lt_of_le_of_lt,Nat.le_of_lt,Nat.lt_succ_of_le,Nat.succ_le_of_lt,Nat.ne_of_lt,Nat.ne_of_gt,Nat.le_of_lt_succ,Nat.lt_of_succ_le,Nat.not_lt,Nat.le_of_not_lt,Nat.lt_of_not_le,Int.le_trans,Int.le_of_lt,Int.lt_of_lt_of_le]
theorem om332:∀ {a b c d:Nat},a ≤ b → c + 1 < a → d = (c + a) / 2 - c → min c b + ((c + a) / 2 - c + (b - (c + a) / 2)) = b:=fun {a b c d} h1 h2 h3=>by rw [Nat.min_eq_left (Nat.le_trans (Nat.le_of_lt (Nat.lt_of_succ_lt h2)) h1),← sub3 (Nat.le_of_lt (C1d h2)) (Nat.le_trans (Nat.le_of_lt (B8h h2)) h1),Nat.add_sub_cancel' (Nat.le_trans (Nat.le_of_lt (Nat.lt_of_succ_lt h2)) h1)]
theorem om333:∀ {a b:Nat},a + 1 < b → b - a = (a + b) / 2 - a + (b - (a + b) / 2):=D8y
theorem om334:∀ {a b c:Nat},a ≤ b → c = b → a ≤ c:=by intros; subst_vars; omega
theorem om335:∀ {a b:Nat},a ≤ 300 → b = a → b ≤ 300:=by intros; subst_vars; omega
theorem om336:∀ {a b:Nat},a + 1 < b → (a + b) / 2 - a + (b - (a + b) / 2) = b - a:=fun h=>(D8y h).symm
theorem om338:∀ {a b c:Nat},a = b → c = b → b ≤ c:=by intros; subst_vars; simp
theorem om339:∀ {a:Nat} {b:Int} {c d e:Nat},a ≤ (256:Nat) → b = (↑a:Int) → c = d → d = a → e = d → e ≤ (300:Nat):=by lia
theorem om340:∀ {a:Nat} {b:Int} {c d e:Nat},a ≤ (256:Nat) → b = (↑a:Int) → c = d → d = a → e = d → d - (0:Nat) ≤ (2:Nat) ^ (8:Nat):=by intros; simp_all
theorem om344:∀ {a:Nat},(0:Int) ≤ (↑a:Int):=by intros; exact Int.natCast_nonneg _
theorem om345:∀ {a b:Nat},a ≤ (256:Nat) → b + (1:Nat) ≤ a → (↑b:Int) < (2:Int) ^ (63:Nat):=by lia
theorem om346:∀ {a b:Nat},a ≤ b → a ≤ b:=by intros; simp_all
theorem om347:∀ {a b c:Nat},a ≤ 256 → b ≤ a → c + 1 < b → min (b - (c + b) / 2) (a - (c + b) / 2) ≤ 300:=fun h1 h2 Z=>Nat.le_trans (Nat.min_le_left _ _) (Nat.le_trans (Nat.sub_le _ _) (Nat.le_trans h2 (Nat.le_trans h1 (by decide))))
theorem om348:∀ {a b:Nat},a ≤ 256 → b ≤ a → b ≤ 300:=by lia
theorem om349:∀ {a b c:Nat},a ≤ 256 → b ≤ a → c + 1 < b → (c + b) / 2 - c = min ((c + b) / 2 - c) (a - c):=fun Z h2 h3=>(Nat.min_eq_left (Nat.sub_le_sub_right (Nat.le_trans (Nat.le_of_lt (B8h h3)) h2) _)).symm
theorem om350:∀ {a:Nat},a ≤ 256 → a - 0 ≤ 2 ^ 8:=by intros; simp_all
theorem om351:∀ {a:Nat},a ≤ 256 → ¬0 < a → a = 0:=by intros; simp_all
theorem om352:∀ {a b:Nat},a < b → a + 1 ≤ b ∧ a ≤ a + 1:=by lia
theorem om353:∀ {a b:Nat},a ≤ b → ¬a < b → a ≤ b ∧ a ≤ a:=by intros; solve_by_elim (maxDepth:=4) [Nat.lt_of_lt_of_le,Nat.le_trans,Nat.lt_of_le_of_lt,Nat.le_of_lt,Nat.lt_succ_of_le,Nat.succ_le_of_lt,Nat.ne_of_lt,Nat.ne_of_gt,Nat.le_of_lt_succ,Nat.lt_of_succ_le,Nat.not_lt,Nat.le_of_not_lt,Nat.lt_of_not_le,Int.le_trans,Int.le_of_lt,Int.lt_of_lt_of_le]
theorem om354:∀ {a:Nat},1 + a ≤ a + 1:=by intros; simp +arith at *
theorem om355:∀ {a:Nat},0 + a ≤ a:=by intros; simp_all
theorem om357:∀ {a b:Nat} {c d:Prop},a < b → a = b → c ∧ d:=by intros; solve_by_elim (maxDepth:=4) [Nat.lt_of_lt_of_le,Nat.le_trans,Nat.lt_of_le_of_lt,Nat.le_of_lt,Nat.lt_succ_of_le,Nat.succ_le_of_lt,Nat.ne_of_lt,Nat.ne_of_gt,Nat.le_of_lt_succ,Nat.lt_of_succ_le,Nat.not_lt,Nat.le_of_not_lt,Nat.lt_of_not_le,Int.le_trans,Int.le_of_lt,Int.lt_of_lt_of_le]
theorem om359:∀ {a b:Nat},a = 0 → a ≤ b + 1:=by intros; subst_vars; simp
theorem om361:∀ {a b c d e:Nat},a = 0 → b + (c + 1) ≤ d → a + b ≤ e ∧ e ≤ a + b → e ≤ d:=by grind
theorem om362:∀ {a b c d:Nat},a = 1 → b = 0 → b + a ≤ c ∧ c ≤ b + a → c ≤ d + 1:=by intros; subst_vars; grind
theorem om447:∀ {a b c:Nat},a ≤ 1000 → b ≤ a → c = b → c ≤ 1000:=by lia
theorem om448:∀ {a:Nat},1 + a = a + 1:=by intros; simp only [Nat.add_assoc,Nat.add_comm,Nat.add_left_comm]
theorem om449:∀ {a:Nat},0 + a = a:=by intros; simp_all
theorem om450:∀ {a b:Nat},a + b = b + 1 → a ≤ 1:=by grind
theorem om451:∀ {a b:Nat},a + b = b → a ≤ 1:=by intros; simp_all
theorem om452:∀ {a b c:Nat},a ≤ 1000 → b + a = c → b ≤ 1 → a + b ≤ 16777216:=by grind
theorem om453:∀ {a b c d:Nat},a + b = c → d = b + a → d = c:=by intros; simp +arith [*]
theorem om454:∀ {a b:Nat},a ≤ b → ¬a < b → a = b:=by lia
theorem om507:∀ {a b c:Nat},a < b → (1:Int) + ((↑c:Int) + (1:Int)) = (1:Int) + (↑c:Int) + (1:Int):=by intros; solve_by_elim (maxDepth:=4) [Nat.lt_of_lt_of_le,Nat.le_trans,Nat.lt_of_le_of_lt,Nat.le_of_lt,Nat.lt_succ_of_le,Nat.succ_le_of_lt,Nat.ne_of_lt,Nat.ne_of_gt,Nat.le_of_lt_succ,Nat.lt_of_succ_le,Nat.not_lt,Nat.le_of_not_lt,Nat.lt_of_not_le,Int.le_trans,Int.le_of_lt,Int.lt_of_lt_of_le]
theorem om510:∀ {a b c d:Nat},a ≤ b → c + 100 + b < d → c + 100 + a < d:=by grind
theorem om511:∀ {a b c d:Nat},a ≤ b → c + 3 * (100 + b) < d → c + 3 * (100 + a) < d:=by grind
theorem om528:∀ {a b:Nat},a ≤ 1000 → b ≤ a + 1 → b ≤ 1001:=by lia
theorem om529:∀ {a:Nat},a ≤ 1000 → a ≤ 100000:=by intros; exact Nat.le_trans (by assumption) (by decide)
theorem om530:(-1001:Int) ≤ (0:Int) + (↑(0:Nat):Int):=by intros; exact Int.natCast_nonneg _
theorem om531:(0:Int) ≤ (↑(0:Nat):Int):=by intros; exact Int.natCast_nonneg _
theorem om532:∀ {a:Int} {b:Nat},(-1001:Int) ≤ a + (↑b:Int) → (-1001:Int) ≤ a + (1:Int) + (↑(b + (1:Nat)):Int):=by lia
theorem om533:∀ {a:Int} {b:Nat},a ≤ (↑b:Int) → a + (1:Int) ≤ (↑(b + (1:Nat)):Int):=by intros; simp; omega
theorem om534:∀ {a:Int} {b:Nat},(-1001:Int) ≤ a + (↑b:Int) → (-1001:Int) ≤ a - (1:Int) + (↑(b + (1:Nat)):Int):=by lia
theorem om535:∀ {a:Int} {b:Nat},a ≤ (↑b:Int) → a - (1:Int) ≤ (↑(b + (1:Nat)):Int):=by lia
theorem om536:∀ {a:Int} {b:Nat},(-1001:Int) ≤ a + (↑b:Int) → (-1001:Int) ≤ a + (↑(b + (1:Nat)):Int):=by lia
theorem om537:∀ {a:Int} {b:Nat},a ≤ (↑b:Int) → a ≤ (↑(b + (1:Nat)):Int):=by lia
theorem om547:∀ {a b c d:Nat},a = b → c < b → d = c → b - 1 - c < a:=by intros; subst_vars; omega
theorem om550:∀ {a b c:Nat},a = b → b < (1000:Nat) → (0:Nat) < b → c ≤ b + b → (↑c:Int) - (↑b:Int) ≤ (4000:Int):=by grind
theorem om551:∀ {a b c d e f:Nat},a ≤ 256 → b = a → c = b → d < b → e = d → f = d → f ≤ 300:=by lia
theorem om553:∀ {a b c d e:Nat},a = b → c < b → d = c → e = c → c < a:=by intros; simp_all
theorem om554:∀ {a b c d e:Nat},a ≤ 256 → b = a → c = b → d = b → e = b → e ≤ 16777216:=by lia
theorem om555:∀ {a b c d e:Nat},a ≤ 256 → b = a → c = b → d = b → e = b → d ≤ 256:=by intros; simp +arith [*]
theorem om556:∀ {a b:Nat},a < b → a < b + 1:=by intros; solve_by_elim (maxDepth:=4) [Nat.lt_of_lt_of_le,Nat.le_trans,Nat.lt_of_le_of_lt,Nat.le_of_lt,Nat.lt_succ_of_le,Nat.succ_le_of_lt,Nat.ne_of_lt,Nat.ne_of_gt,Nat.le_of_lt_succ,Nat.lt_of_succ_le,Nat.not_lt,Nat.le_of_not_lt,Nat.lt_of_not_le,Int.le_trans,Int.le_of_lt,Int.lt_of_lt_of_le]
theorem om557:∀ {a b:Nat},a < b → ¬a = b:=by intros; exact Nat.ne_of_lt (by assumption)
theorem om558:∀ {a b:Nat},¬a < b → ¬a = b → ¬a < b + 1:=by lia
theorem om559:∀ {a b:Nat},¬a < b → ¬a = b → a = b + 1 + (a - (b + 1)):=fun h1 h2=>(Nat.add_sub_cancel' (Nat.lt_of_le_of_ne (Nat.not_lt.mp h1) (Ne.symm h2))).symm
theorem om560:∀ {a b:Nat},a + 1 + b - (a + 1) = b:=by intros; exact Nat.add_sub_cancel_left ..
theorem om561:∀ {a b:Nat},a + 1 + b - a = b + 1:=fun {a b}=>by rw [Nat.add_assoc,Nat.add_sub_cancel_left,Nat.add_comm]
theorem om562:∀ {a b c:Nat},a = b → c < b → c < a:=by intros; subst_vars; omega
theorem om565:∀ {a:Nat},¬(↑a:Int) + (1:Int) < (0:Int):=by grind
theorem om566:∀ {a b:Nat},a < b → max (0:Int) (min (↑a:Int) (↑b:Int)) = (↑a:Int):=fun h=>by rw [Int.min_eq_left (Int.ofNat_le.mpr (Nat.le_of_lt h)),Int.max_eq_right (Int.natCast_nonneg _)]
theorem om567:∀ {a b:Nat},a < b → max (0:Int) (min (↑a:Int) (↑b:Int)) = (↑a:Int) → max (0:Int) (min ((↑a:Int) + (1:Int)) (↑b:Int)) = (↑a:Int) + (1:Int):=by lia
theorem om568:∀ {a:Nat},(↑a:Int) < (↑a:Int) + (1:Int):=by intros; simp +arith at *
theorem om569:∀ {a:Nat},((↑a:Int) + (1:Int) - (↑a:Int) + (1:Int) - (1:Int)) / (1:Int) = (1:Int):=by intros; simp +arith at *
theorem om570:∀ {a b:Nat},a ≤ b → ¬a < b → max (0:Int) (min (↑a:Int) (↑b:Int)) = (↑b:Int):=fun {a b} h1 h2=>by rw [Nat.le_antisymm h1 (Nat.not_lt.mp h2),Int.min_eq_left (Int.le_refl _),Int.max_eq_right (Int.natCast_nonneg _)]
theorem om571:∀ {a b:Nat},a ≤ b → ¬a < b → max (0:Int) (min (↑a:Int) (↑b:Int)) = (↑b:Int) → max (0:Int) (min ((↑a:Int) + (1:Int)) (↑b:Int)) = (↑b:Int):=fun {a b} h1 h2 Z=>by rw [Nat.le_antisymm h1 (Nat.not_lt.mp h2),Int.min_eq_right (Int.le_of_lt (Int.lt_succ _)),Int.max_eq_right (Int.natCast_nonneg _)]
theorem om572:∀ {a:Nat},1 = a → a = 1:=by intros; solve_by_elim (maxDepth:=4) [Nat.lt_of_lt_of_le,Nat.le_trans,Nat.lt_of_le_of_lt,Nat.le_of_lt,Nat.lt_succ_of_le,Nat.succ_le_of_lt,Nat.ne_of_lt,Nat.ne_of_gt,Nat.le_of_lt_succ,Nat.lt_of_succ_le,Nat.not_lt,Nat.le_of_not_lt,Nat.lt_of_not_le,Int.le_trans,Int.le_of_lt,Int.lt_of_lt_of_le]
theorem om573:∀ {a b:Nat},a < b → b = 1 → a = 0:=by intros; simp_all
theorem om574:∀ {a:Nat},a = 0 → a = 0:=by intros; assumption
theorem om575:∀ {a b:Nat},a ≤ b → ¬a < b → 0 = b → b = 0:=by intros; solve_by_elim (maxDepth:=4) [Nat.lt_of_lt_of_le,Nat.le_trans,Nat.lt_of_le_of_lt,Nat.le_of_lt,Nat.lt_succ_of_le,Nat.succ_le_of_lt,Nat.ne_of_lt,Nat.ne_of_gt,Nat.le_of_lt_succ,Nat.lt_of_succ_le,Nat.not_lt,Nat.le_of_not_lt,Nat.lt_of_not_le,Int.le_trans,Int.le_of_lt,Int.lt_of_lt_of_le]
theorem om577:∀ {a:Nat},a ≤ 1000 → a ≤ 16777215:=by intros; exact Nat.le_trans (by assumption) (by decide)
theorem om582:∀ {a:Int},a ≠ (0:Int) → a ≠ (0:Int):=by intros; assumption
theorem om589:∀ {a b:Int},¬(0:Int) ≤ a → b = (-1:Int) - a → (0:Int) ≤ (-1:Int) - a:=by intros; simp +arith only at *; omega
theorem om590:∀ {a b:Int},¬(0:Int) ≤ a → b = (-1:Int) - a → a < (0:Int):=by intros; simp_all
theorem om591:∀ {a b:Int},a + (-b - (1:Int)) = a + ((-1:Int) - b):=by intros; simp +arith at *
end Ab
end
section
namespace Ab
universe u
@[elab_as_elim] theorem eqQ {α:Sort u} {a c:α} {P:α → Prop} (h:c = a) (q:P a):P c:=h ▸ q
@[elab_as_elim] theorem eqR {α:Sort u} {a c:α} {P:α → Prop} (h:a = c) (q:P a):P c:=h ▸ q
@[elab_as_elim] theorem genQ {α:Sort u} {P:α → Prop} (a:α) (h:∀ x,a = x → P x):P a:=h a rfl
@[elab_as_elim] theorem B0j {α β:Type} {a c:α} {b d:β} {P:α → β → Prop} (h:some (a,b) = some (c,d)) (q:P a b):P c d:=by cases h; exact q
@[elab_as_elim] theorem B0g {α:Type} {a c:α} {P:α → Prop} (h:some a = some c) (q:P a):P c:=oYY h ▸ q
theorem C5f {p0 p1 p2:Prop} {P:Prop} (h:p0 ∧ p1 ∧ p2) (q:p0 → p1 → p2 → P):P:=q h.1 h.2.1 h.2.2
theorem x0a4 {p0 p1 p2 p3:Prop} {P:Prop} (h:p0 ∧ p1 ∧ p2 ∧ p3) (q:p0 → p1 → p2 → p3 → P):P:=q h.1 h.2.1 h.2.2.1 h.2.2.2
theorem x0a6 {p0 p1 p2 p3 p4 p5:Prop} {P:Prop} (h:p0 ∧ p1 ∧ p2 ∧ p3 ∧ p4 ∧ p5) (q:p0 → p1 → p2 → p3 → p4 → p5 → P):P:=q h.1 h.2.1 h.2.2.1 h.2.2.2.1 h.2.2.2.2.1 h.2.2.2.2.2
theorem B0o {α0:Sort u} {p0 p1:α0 → Prop} {P:Prop} (h:∃ (x0:α0),p0 x0 ∧ p1 x0) (q:∀ x0,p0 x0 → p1 x0 → P):P:=h.elim fun x0 h=>q x0 h.1 h.2
theorem B8y {α0:Sort u} {p0 p1 p2:α0 → Prop} {P:Prop} (h:∃ (x0:α0),p0 x0 ∧ p1 x0 ∧ p2 x0) (q:∀ x0,p0 x0 → p1 x0 → p2 x0 → P):P:=h.elim fun x0 h=>q x0 h.1 h.2.1 h.2.2
theorem D6w {α0:Sort u} {p0 p1 p2 p3 p4 p5:α0 → Prop} {P:Prop} (h:∃ (x0:α0),p0 x0 ∧ p1 x0 ∧ p2 x0 ∧ p3 x0 ∧ p4 x0 ∧ p5 x0) (q:∀ x0,p0 x0 → p1 x0 → p2 x0 → p3 x0 → p4 x0 → p5 x0 → P):P:=h.elim fun x0 h=>q x0 h.1 h.2.1 h.2.2.1 h.2.2.2.1 h.2.2.2.2.1 h.2.2.2.2.2
theorem x2a1 {α0 α1:Sort u} {p0:α0 → α1 → Prop} {P:Prop} (h:∃ (x0:α0) (x1:α1),p0 x0 x1) (q:∀ x0 x1,p0 x0 x1 → P):P:=h.elim fun x0 h=>h.elim fun x1 h=>q x0 x1 h
theorem C0i {α0 α1:Sort u} {p0 p1:α0 → α1 → Prop} {P:Prop} (h:∃ (x0:α0) (x1:α1),p0 x0 x1 ∧ p1 x0 x1) (q:∀ x0 x1,p0 x0 x1 → p1 x0 x1 → P):P:=h.elim fun x0 h=>h.elim fun x1 h=>q x0 x1 h.1 h.2
theorem F1d {α0 α1:Sort u} {p0 p1 p2:α0 → α1 → Prop} {P:Prop} (h:∃ (x0:α0) (x1:α1),p0 x0 x1 ∧ p1 x0 x1 ∧ p2 x0 x1) (q:∀ x0 x1,p0 x0 x1 → p1 x0 x1 → p2 x0 x1 → P):P:=h.elim fun x0 h=>h.elim fun x1 h=>q x0 x1 h.1 h.2.1 h.2.2
theorem D3n {α0 α1:Sort u} {p0 p1 p2 p3:α0 → α1 → Prop} {P:Prop} (h:∃ (x0:α0) (x1:α1),p0 x0 x1 ∧ p1 x0 x1 ∧ p2 x0 x1 ∧ p3 x0 x1) (q:∀ x0 x1,p0 x0 x1 → p1 x0 x1 → p2 x0 x1 → p3 x0 x1 → P):P:=h.elim fun x0 h=>h.elim fun x1 h=>q x0 x1 h.1 h.2.1 h.2.2.1 h.2.2.2
theorem D6v {α0 α1:Sort u} {p0 p1 p2 p3 p4:α0 → α1 → Prop} {P:Prop} (h:∃ (x0:α0) (x1:α1),p0 x0 x1 ∧ p1 x0 x1 ∧ p2 x0 x1 ∧ p3 x0 x1 ∧ p4 x0 x1) (q:∀ x0 x1,p0 x0 x1 → p1 x0 x1 → p2 x0 x1 → p3 x0 x1 → p4 x0 x1 → P):P:=h.elim fun x0 h=>h.elim fun x1 h=>q x0 x1 h.1 h.2.1 h.2.2.1 h.2.2.2.1 h.2.2.2.2
theorem x2a7 {α0 α1:Sort u} {p0 p1 p2 p3 p4 p5 p6:α0 → α1 → Prop} {P:Prop} (h:∃ (x0:α0) (x1:α1),p0 x0 x1 ∧ p1 x0 x1 ∧ p2 x0 x1 ∧ p3 x0 x1 ∧ p4 x0 x1 ∧ p5 x0 x1 ∧ p6 x0 x1) (q:∀ x0 x1,p0 x0 x1 → p1 x0 x1 → p2 x0 x1 → p3 x0 x1 → p4 x0 x1 → p5 x0 x1 → p6 x0 x1 → P):P:=h.elim fun x0 h=>h.elim fun x1 h=>q x0 x1 h.1 h.2.1 h.2.2.1 h.2.2.2.1 h.2.2.2.2.1 h.2.2.2.2.2.1 h.2.2.2.2.2.2
theorem x3a1 {α0 α1 α2:Sort u} {p0:α0 → α1 → α2 → Prop} {P:Prop} (h:∃ (x0:α0) (x1:α1) (x2:α2),p0 x0 x1 x2) (q:∀ x0 x1 x2,p0 x0 x1 x2 → P):P:=h.elim fun x0 h=>h.elim fun x1 h=>h.elim fun x2 h=>q x0 x1 x2 h
theorem x3a2 {α0 α1 α2:Sort u} {p0 p1:α0 → α1 → α2 → Prop} {P:Prop} (h:∃ (x0:α0) (x1:α1) (x2:α2),p0 x0 x1 x2 ∧ p1 x0 x1 x2) (q:∀ x0 x1 x2,p0 x0 x1 x2 → p1 x0 x1 x2 → P):P:=h.elim fun x0 h=>h.elim fun x1 h=>h.elim fun x2 h=>q x0 x1 x2 h.1 h.2
theorem x3a3 {α0 α1 α2:Sort u} {p0 p1 p2:α0 → α1 → α2 → Prop} {P:Prop} (h:∃ (x0:α0) (x1:α1) (x2:α2),p0 x0 x1 x2 ∧ p1 x0 x1 x2 ∧ p2 x0 x1 x2) (q:∀ x0 x1 x2,p0 x0 x1 x2 → p1 x0 x1 x2 → p2 x0 x1 x2 → P):P:=h.elim fun x0 h=>h.elim fun x1 h=>h.elim fun x2 h=>q x0 x1 x2 h.1 h.2.1 h.2.2
theorem D7g {α0 α1 α2:Sort u} {p0 p1 p2 p3:α0 → α1 → α2 → Prop} {P:Prop} (h:∃ (x0:α0) (x1:α1) (x2:α2),p0 x0 x1 x2 ∧ p1 x0 x1 x2 ∧ p2 x0 x1 x2 ∧ p3 x0 x1 x2) (q:∀ x0 x1 x2,p0 x0 x1 x2 → p1 x0 x1 x2 → p2 x0 x1 x2 → p3 x0 x1 x2 → P):P:=h.elim fun x0 h=>h.elim fun x1 h=>h.elim fun x2 h=>q x0 x1 x2 h.1 h.2.1 h.2.2.1 h.2.2.2
theorem x3a6 {α0 α1 α2:Sort u} {p0 p1 p2 p3 p4 p5:α0 → α1 → α2 → Prop} {P:Prop} (h:∃ (x0:α0) (x1:α1) (x2:α2),p0 x0 x1 x2 ∧ p1 x0 x1 x2 ∧ p2 x0 x1 x2 ∧ p3 x0 x1 x2 ∧ p4 x0 x1 x2 ∧ p5 x0 x1 x2) (q:∀ x0 x1 x2,p0 x0 x1 x2 → p1 x0 x1 x2 → p2 x0 x1 x2 → p3 x0 x1 x2 → p4 x0 x1 x2 → p5 x0 x1 x2 → P):P:=h.elim fun x0 h=>h.elim fun x1 h=>h.elim fun x2 h=>q x0 x1 x2 h.1 h.2.1 h.2.2.1 h.2.2.2.1 h.2.2.2.2.1 h.2.2.2.2.2
theorem C4f {α0 α1 α2 α3:Sort u} {p0:α0 → α1 → α2 → α3 → Prop} {P:Prop} (h:∃ (x0:α0) (x1:α1) (x2:α2) (x3:α3),p0 x0 x1 x2 x3) (q:∀ x0 x1 x2 x3,p0 x0 x1 x2 x3 → P):P:=h.elim fun x0 h=>h.elim fun x1 h=>h.elim fun x2 h=>h.elim fun x3 h=>q x0 x1 x2 x3 h
theorem x4a2 {α0 α1 α2 α3:Sort u} {p0 p1:α0 → α1 → α2 → α3 → Prop} {P:Prop} (h:∃ (x0:α0) (x1:α1) (x2:α2) (x3:α3),p0 x0 x1 x2 x3 ∧ p1 x0 x1 x2 x3) (q:∀ x0 x1 x2 x3,p0 x0 x1 x2 x3 → p1 x0 x1 x2 x3 → P):P:=h.elim fun x0 h=>h.elim fun x1 h=>h.elim fun x2 h=>h.elim fun x3 h=>q x0 x1 x2 x3 h.1 h.2
theorem D6u {α0 α1 α2 α3:Sort u} {p0 p1 p2:α0 → α1 → α2 → α3 → Prop} {P:Prop} (h:∃ (x0:α0) (x1:α1) (x2:α2) (x3:α3),p0 x0 x1 x2 x3 ∧ p1 x0 x1 x2 x3 ∧ p2 x0 x1 x2 x3) (q:∀ x0 x1 x2 x3,p0 x0 x1 x2 x3 → p1 x0 x1 x2 x3 → p2 x0 x1 x2 x3 → P):P:=h.elim fun x0 h=>h.elim fun x1 h=>h.elim fun x2 h=>h.elim fun x3 h=>q x0 x1 x2 x3 h.1 h.2.1 h.2.2
theorem x4a4 {α0 α1 α2 α3:Sort u} {p0 p1 p2 p3:α0 → α1 → α2 → α3 → Prop} {P:Prop} (h:∃ (x0:α0) (x1:α1) (x2:α2) (x3:α3),p0 x0 x1 x2 x3 ∧ p1 x0 x1 x2 x3 ∧ p2 x0 x1 x2 x3 ∧ p3 x0 x1 x2 x3) (q:∀ x0 x1 x2 x3,p0 x0 x1 x2 x3 → p1 x0 x1 x2 x3 → p2 x0 x1 x2 x3 → p3 x0 x1 x2 x3 → P):P:=h.elim fun x0 h=>h.elim fun x1 h=>h.elim fun x2 h=>h.elim fun x3 h=>q x0 x1 x2 x3 h.1 h.2.1 h.2.2.1 h.2.2.2
theorem x4a5 {α0 α1 α2 α3:Sort u} {p0 p1 p2 p3 p4:α0 → α1 → α2 → α3 → Prop} {P:Prop} (h:∃ (x0:α0) (x1:α1) (x2:α2) (x3:α3),p0 x0 x1 x2 x3 ∧ p1 x0 x1 x2 x3 ∧ p2 x0 x1 x2 x3 ∧ p3 x0 x1 x2 x3 ∧ p4 x0 x1 x2 x3) (q:∀ x0 x1 x2 x3,p0 x0 x1 x2 x3 → p1 x0 x1 x2 x3 → p2 x0 x1 x2 x3 → p3 x0 x1 x2 x3 → p4 x0 x1 x2 x3 → P):P:=h.elim fun x0 h=>h.elim fun x1 h=>h.elim fun x2 h=>h.elim fun x3 h=>q x0 x1 x2 x3 h.1 h.2.1 h.2.2.1 h.2.2.2.1 h.2.2.2.2
theorem x4a8 {α0 α1 α2 α3:Sort u} {p0 p1 p2 p3 p4 p5 p6 p7:α0 → α1 → α2 → α3 → Prop} {P:Prop} (h:∃ (x0:α0) (x1:α1) (x2:α2) (x3:α3),p0 x0 x1 x2 x3 ∧ p1 x0 x1 x2 x3 ∧ p2 x0 x1 x2 x3 ∧ p3 x0 x1 x2 x3 ∧ p4 x0 x1 x2 x3 ∧ p5 x0 x1 x2 x3 ∧ p6 x0 x1 x2 x3 ∧ p7 x0 x1 x2 x3) (q:∀ x0 x1 x2 x3,p0 x0 x1 x2 x3 → p1 x0 x1 x2 x3 → p2 x0 x1 x2 x3 → p3 x0 x1 x2 x3 → p4 x0 x1 x2 x3 → p5 x0 x1 x2 x3 → p6 x0 x1 x2 x3 → p7 x0 x1 x2 x3 → P):P:=h.elim fun x0 h=>h.elim fun x1 h=>h.elim fun x2 h=>h.elim fun x3 h=>q x0 x1 x2 x3 h.1 h.2.1 h.2.2.1 h.2.2.2.1 h.2.2.2.2.1 h.2.2.2.2.2.1 h.2.2.2.2.2.2.1 h.2.2.2.2.2.2.2
end Ab
end
section
namespace Mine
noncomputable abbrev Nev:Value → Shared → Prop:=fun Z Z=>False
theorem idE {α:Type} {E:α → Shared → Prop} (e:α) (s:Shared) (z:E e s):E e s:=z
theorem B6o {Q:Value → Shared → Prop} (e:Value) (s:Shared) (z:Nev e s):Q e s:=z.elim
inductive Pick {α:Type} (p:α):List α → List α → Prop
 | head {l}:Pick p (p :: l) l
 | tail {q l r}:Pick p l r → Pick p (q :: l) (q :: r)
theorem Pick.perm {α:Type} {p:α} {l r:List α} (h:Pick p l r):l.Perm (p :: r):=by
 induction h with
 | head=>exact .refl _
 | tail J ih=>exact (List.Perm.cons _ ih).trans (List.Perm.swap _ _ _)
noncomputable abbrev Nd (l:List (Addr × Obj)):Prop:=(l.map (·.1)).Nodup
structure Led (b:Heap) (L:Addr) (h:Heap) (l:List (Addr × Obj)):Prop where
 n:News b L h l
 nd:Nd l
theorem Led.perm {b h:Heap} {L:Addr} {l l':List (Addr × Obj)} (D:Led b L h l) (p:l.Perm l'):Led b L h l' :=
 ⟨fun q hq=>D.n q (p.symm.subset hq),(p.map _).nodup_iff.mp D.nd⟩
theorem Led.pick {b h:Heap} {L:Addr} {l r:List (Addr × Obj)} {p:Addr × Obj} (D:Led b L h l) (k:Pick p l r):Led b L h (p :: r):=D.perm k.perm
theorem B0i {a:Addr} {o:Obj} {l:List (Addr × Obj)} (h:∀ p ∈ l,p.1 ≠ a) (n:Nd l):Nd ((a,o) :: l):=by
 refine List.nodup_cons.mpr ⟨fun hm=>?_,n⟩
 obtain ⟨p,hp,e⟩:=List.mem_map.mp hm
 exact h p hp e
theorem B0d {a:Addr} {o:Obj} {l:List (Addr × Obj)} (n:Nd ((a,o) :: l)):∀ p ∈ l,p.1 ≠ a:=by
 intro p hp e
 have h:=(List.nodup_cons.mp n).1
 exact h (e ▸ List.mem_map.mpr ⟨p,hp,rfl⟩)
theorem B0b {p:Addr × Obj} {l:List (Addr × Obj)} (n:Nd (p :: l)):Nd l:=(List.nodup_cons.mp n).2
theorem Led.tail {b h:Heap} {L:Addr} {l:List (Addr × Obj)} {p:Addr × Obj} (D:Led b L h (p :: l)):Led b L h l:=⟨fun q hq=>D.n q (.tail _ hq),B0b D.nd⟩
theorem Led.drop {b h:Heap} {L:Addr} (l:List (Addr × Obj)) {r:List (Addr × Obj)} (D:Led b L h (l ++ r)):Led b L h r:=by
 induction l with
 | nil=>exact D
 | cons p l ih=>exact ih (Led.tail D)
theorem B0y {d:Addr}:∀ {l:List (Addr × Obj)},AllLt d l → ∀ p ∈ l,p.1 ≠ d
 | [],J,p,hp=>nomatch hp
 | q :: r,⟨h1,h2⟩,p,hp=>by
  rcases List.mem_cons.mp hp with rfl | hp
  ·exact Nat.ne_of_lt h1
  ·exact B0y h2 p hp
theorem Led.lt {b h:Heap} {L:Addr} {l:List (Addr × Obj)} (D:Led b L h l):∀ p ∈ l,p.1 < h.objs.size:=fun p hp=>Heap.lt_size (D.n p hp).1
theorem Led.at {b h:Heap} {L:Addr} {l:List (Addr × Obj)} (D:Led b L h l) {a:Addr} {o:Obj} (hm:(a,o) ∈ l):h.get? a = some o:=(D.n _ hm).1
theorem Led.keep {b h h':Heap} {L:Addr} {l:List (Addr × Obj)} (D:Led b L h l) (k:∀ p ∈ l,h'.get? p.1 = some p.2):Led b L h' l:=⟨fun p hp=>⟨k p hp,(D.n p hp).2⟩,D.nd⟩
theorem C7e {b h:Heap} {L:Addr} {l l':List (Addr × Obj)} (D:Led b L h l) (s:l'.Sublist l):Led b L h l':=⟨fun p hp=>D.n p (s.subset hp),(s.map _).nodup D.nd⟩
theorem C7f {b h:Heap} {L:Addr} {ex O Rst:List (Addr × Obj)} (D:Led b L h (ex ++ Rst)) (N:News b L h O) (nd:(O.map (·.1)).Nodup) (hd:∀ p ∈ ex ++ Rst,p.1 ∉ O.map (·.1)):Led b L h (ex ++ (O ++ Rst)):=by
 have D2:Led b L h (O ++ (ex ++ Rst)):=⟨fun p hp=>(List.mem_append.mp hp).elim (N p) (D.n p),by
  unfold Nd
  rw [List.map_append,List.nodup_append]
  refine ⟨nd,D.nd,fun a ha c hc e=>?_⟩
  obtain ⟨p,hp,rfl⟩:=List.mem_map.mp hc
  exact hd p hp (e ▸ ha)⟩
 exact D2.perm (List.perm_append_comm_assoc _ _ _)
inductive LIn (b:Heap) (L:Addr) (s:Shared) (wr:List Addr) (n:Nat) (St:Nat → Heap → Prop) (J:Nat → (Str → Option Value) → List (Addr × Obj) → Array GenState → Prop) (Rst:List (Addr × Obj)) (k:Nat) (s':Shared):Prop
 | mk (m':Str → Option Value) (ex':List (Addr × Obj)) (i:Nat) (e1:s'.drawn = s.drawn) (e2:s'.os = s.os) (hst:St i s'.heap) (F:Fr b L s'.heap m') (D:Led b L s'.heap (ex' ++ Rst)) (hw:∀ p ∈ ex' ++ Rst,p.1 ∉ wr) (hJ:J i m' ex' s'.gens) (hi:i ≤ n) (hk:k = n + 1 - i)
section
variable {prog:Program} {w:World} {A:Around} {env:Env} {b:Heap}
noncomputable def StepEnd (b:Heap) (L:Addr) (J:(Str → Option Value) → List (Addr × Obj) → Array GenState → Prop) (T:List (Addr × Obj)) (s:Shared) (R:Result → Shared → Prop) (f:Flow) (s₂:Shared):Prop :=
 match f with
 | .brk=>R (.ok .next) s₂
 | .ret v=>R (.ok (.ret v)) s₂
 | _=>s₂.drawn = s.drawn ∧ s₂.os = s.os ∧ ∃ m' ex',Fr b L s₂.heap m' ∧ Led b L s₂.heap (ex' ++ T) ∧ J m' ex' s₂.gens
theorem opq {α:Type} {M:Model} {A:Around} {t:Sem α} {Q:α → Shared → Prop} {E:Value → Shared → Prop} {s:Shared} (h:∀ K:α → Shared → Prop,(∀ f s',Q f s' → K f s') → wpAny M A t K E s):wpAny M A t Q E s:=h Q fun Z Z h=>h
theorem fB {M:Model} {A:Around} {x:Stmt} {xs:List Stmt} {e:Env} {Q:Flow → Shared → Prop} {E:Value → Shared → Prop} {s:Shared} (h:let K:=Q; wpAny M A (execs (x :: xs) e) K E s):wpAny M A (execs (x :: xs) e) Q E s:=h
theorem fS {M:Model} {A:Around} {x:Stmt} {e:Env} {Q:Flow → Shared → Prop} {E:Value → Shared → Prop} {s:Shared} (h:let K:=Q; wpAny M A (exec x e) K E s):wpAny M A (exec x e) Q E s:=h
theorem stg {α:Type} {M:Model} {A:Around} {t:Sem α} {Q:α → Shared → Prop} {E:Value → Shared → Prop} {h:Heap} {a:Nat} (g:Array GenState) (s:Shared) (k:∀ tk,wpAny M A t Q E ⟨h,g,s.drawn,tk,s.os⟩):wpAny M A t Q E ⟨h,g,s.drawn,a,s.os⟩:=k _
theorem stq {α:Type} {M:Model} {A:Around} {t:Sem α} {Q:α → Shared → Prop} {E:Value → Shared → Prop} {h:Heap} {a:Nat} (s:Shared) (k:∀ tk,wpAny M A t Q E ⟨h,s.gens,s.drawn,tk,s.os⟩):wpAny M A t Q E ⟨h,s.gens,s.drawn,a,s.os⟩:=k _
theorem StepEnd.next {L:Addr} {J:(Str → Option Value) → List (Addr × Obj) → Array GenState → Prop} {T ex':List (Addr × Obj)} {s s₂:Shared} {R:Result → Shared → Prop} {m':Str → Option Value}
  (F:Fr b L s₂.heap m') (D:Led b L s₂.heap (ex' ++ T)) (j:J m' ex' s₂.gens) (h1:s₂.drawn = s.drawn) (h2:s₂.os = s.os):StepEnd b L J T s R .next s₂:=⟨h1,h2,m',ex',F,D,j⟩
theorem StepEnd.cont {L:Addr} {J:(Str → Option Value) → List (Addr × Obj) → Array GenState → Prop} {T ex':List (Addr × Obj)} {s s₂:Shared} {R:Result → Shared → Prop} {m':Str → Option Value}
  (F:Fr b L s₂.heap m') (D:Led b L s₂.heap (ex' ++ T)) (j:J m' ex' s₂.gens) (h1:s₂.drawn = s.drawn) (h2:s₂.os = s.os):StepEnd b L J T s R .cont s₂:=⟨h1,h2,m',ex',F,D,j⟩
theorem D0i {target:Expr} {body:List Stmt} {R:Result → Shared → Prop} {I:Addr} {fp wr:List Addr} {n:Nat} {P Md:Nat → Value → Heap → Prop} {St:Nat → Heap → Prop} {s:Shared}
  {m:Str → Option Value} {ex Rst:List (Addr × Obj)} (W:KTurns prog w A target I fp wr n P Md St)
  (hL:env.locals ∉ fp) (hwr:∀ a ∈ wr,b.get? a = none) (hwd:wr.Nodup) (hex:∀ i h,St i h → ∀ a ∈ wr,∃ o,h.get? a = some o)
  (hfp:∀ a ∈ fp,a ∈ wr ∨ (∃ o,(a,o) ∈ Rst) ∨ (∃ o,b.get? a = some o))
  (hst:St 0 s.heap) (F:Fr b env.locals s.heap m) (D:Led b env.locals s.heap (ex ++ Rst)) (hw:∀ p ∈ ex ++ Rst,p.1 ∉ wr)
  (J:Nat → (Str → Option Value) → List (Addr × Obj) → Array GenState → Prop) (h0:J 0 m ex s.gens)
  (step:∀ i v m₁ ex₁ g h₁ tk T,i < n → P i v h₁ → J i m₁ ex₁ g → (∀ p ∈ Rst,p ∈ T) → Fr b env.locals h₁ m₁ → Led b env.locals h₁ (ex₁ ++ T) →
   wpAny (model prog w) A (assign target env v) (fun Z s₂=>wpAny (model prog w) A (execs body env) (StepEnd b env.locals (J (i + 1)) T s R) Nev s₂) Nev { s with heap:=h₁,toks:=tk,gens:=g })
  (done:∀ h' tk g m' ex',J n m' ex' g → Fr b env.locals h' m' → Led b env.locals h' (ex' ++ Rst) → R (.ok .next) { s with heap:=h',toks:=tk,gens:=g }) :
  codeAny (model prog w) A (.forLoop target (.ref I) body [] env) R s:=by
 have hLw:env.locals ∉ wr:=fun h=>hL (W.sub _ h)
 have old:∀ a o,b.get? a = some o → a ∉ wr:=fun a o e hb=>by rw [hwr a hb] at e; cases e
 have ne:∀ {α:Type} {t:Sem α} {Q:α → Shared → Prop} {s':Shared} {E:Value → Shared → Prop},wpAny (model prog w) A t Q Nev s' → wpAny (model prog w) A t Q E s':=fun h=>wpAny_mono h Mine.idE fun Z Z x=>x.elim
 refine codeAny_forLoop_any (LIn b env.locals s wr n St J Rst) ?_ (n + 1)
  ⟨m,ex,0,rfl,rfl,hst,F,D,hw,h0,Nat.zero_le _,rfl⟩
 rintro k ⟨h',g',dr',tk',os'⟩ ⟨m',ex',i,e1,e2,hst',F',D',hw',hJ,hi,rfl⟩
 dsimp only at e1 e2 hst' F' D' hJ
 subst e1 e2
 have next:∀ h₁:Heap,(∀ a o,a ∉ wr → h'.get? a = some o → h₁.get? a = some o) → Fr b env.locals h₁ m' ∧ Led b env.locals h₁ (ex' ++ Rst):=fun h₁ hk₁ =>
  ⟨⟨F'.ns.at' fun o e=>hk₁ _ o hLw e,fun a o e=>hk₁ a o (old a o e) (F'.keep a o e),F'.above⟩,D'.keep fun p hp=>hk₁ _ _ (hw' p hp) (D'.n p hp).1⟩
 by_cases hlt:i < n
 ·refine W.item i _ _ _ hlt hst' fun v h₁ tk₁ hMd hk₁=>?_
  refine W.go i v _ _ _ hMd fun h₂ hP hst₂ hk₂=>?_
  obtain ⟨F₂,D₂⟩:=next h₂ fun a o hb x=>hk₂ a o hb (hk₁ a o hb x)
  have Nown:News b env.locals h₂ (PyProof.Rows.ownOf b wr h₂):=news_ownOf hLw
  have hmap:∀ (q:Heap),(∀ a ∈ wr,∃ o,q.get? a = some o) → (PyProof.Rows.ownOf b wr q).map (·.1) = wr:=by
   intro q hq
   unfold PyProof.Rows.ownOf
   clear hL hwd hex hfp hLw old next Nown W hw hw' F₂ D₂ hst₂ hk₂ hMd hk₁
   induction wr with
   | nil=>rfl
   | cons a r ih =>
    obtain ⟨o,ho⟩:=hq a (.head _)
    have hn:=hwr a (.head _)
    simp only [List.filterMap_cons,hn,Option.isNone_none,if_true,ho,Option.map_some,List.map_cons]
    rw [ih (fun x hx=>hwr x (.tail _ hx)) fun x hx=>hq x (.tail _ hx)]
  have hm₂:=hmap h₂ (hex _ _ hst₂)
  have DT:Led b env.locals h₂ (ex' ++ (PyProof.Rows.ownOf b wr h₂ ++ Rst)):=C7f D₂ Nown (by rw [hm₂]; exact hwd) (by rw [hm₂]; exact hw')
  refine ne (wpAny_mono (step i v m' ex' g' h₂ tk₁ _ hlt hP hJ (fun p hp=>List.mem_append_right _ hp) F₂ DT) (fun Z s₂ h₂'=>ne (wpAny_mono h₂' (fun f s₃ h₃=>?_) fun Z Z e=>e.elim)) fun Z Z e=>e)
  have fin:(s₃.drawn = s.drawn ∧ s₃.os = s.os ∧ ∃ m'' ex'',Fr b env.locals s₃.heap m'' ∧ Led b env.locals s₃.heap (ex'' ++ (PyProof.Rows.ownOf b wr h₂ ++ Rst)) ∧ J (i + 1) m'' ex'' s₃.gens) →
    ∃ mm,mm < n + 1 - i ∧ LIn b env.locals s wr n St J Rst mm s₃:=by
   rintro ⟨e1,e2,m₂,ex₂,F₃,D₃,hJ₃⟩
   refine ⟨n + 1 - (i + 1),by exact Ab.om63 hlt,m₂,ex₂,i + 1,e1,e2,?_,F₃,C7e D₃ (List.Sublist.append_left (List.sublist_append_right _ _) _),?_,hJ₃,hlt,rfl⟩
   ·refine W.frame _ _ _ hst₂ fun a ha o e=>?_
    refine (let fG:Prop:=_; (?_:fG)); rcases hfp a ha with hm | ⟨o',hm⟩ | ⟨o',hm⟩
    ·exact (D₃.n (a,o) (List.mem_append_right _ (List.mem_append_left _ (mem_ownOf hm (hwr a hm) e)))).1
    ·have q:=(D₂.n (a,o') (List.mem_append_right _ hm)).1
     have q2:=oYY (e.symm.trans q)
     subst q2
     exact (D₃.n (a,o) (List.mem_append_right _ (List.mem_append_right _ hm))).1
    ·have q:=F₂.keep a o' hm
     have q2:=oYY (e.symm.trans q)
     subst q2
     exact F₃.keep a o hm
   ·intro p hp hm
    rcases List.mem_append.mp hp with h | h
    ·have hd:=D₃.nd
     unfold Nd at hd
     rw [List.map_append,List.map_append,hm₂] at hd
     exact (List.nodup_append.mp hd).2.2 p.1 (List.mem_map_of_mem h) p.1 (List.mem_append_left _ hm) rfl
    ·exact hw' p (List.mem_append_right _ h) hm
  cases f with
  | ret v=>exact h₃
  | brk=>exact h₃
  | cont=>exact fin h₃
  | next=>exact fin h₃
 ·have hin:i = n:=by exact Ab.om454 hi hlt
  subst hin
  refine W.done _ _ _ hst' fun h₁ tk₁ hk₁=>wpAny_execs_nil ?_
  obtain ⟨F₁,D₁⟩:=next h₁ hk₁
  exact done h₁ tk₁ g' m' ex' hJ F₁ D₁
noncomputable def B4n (prog:Program) (w:World) (A:Around) (env:Env) (target:Expr) (body:List Stmt) (Q:Flow → Shared → Prop) (it:Value) (s:Shared):Prop :=
 codeAny (model prog w) A (.forLoop target it body [] env) (fun r s'=>match r with | .ok f=>Q f s' | .error J=>False) s
theorem B4o {target iter:Expr} {body:List Stmt} {pos:Pos} {s:Shared} {Q:Flow → Shared → Prop}
  (h:wpAny (model prog w) A (eval iter env) (fun xv s₁=>wpAny (model prog w) A (pyIter xv) (fun it s₂=>B4n prog w A env target body Q it s₂) Nev s₁) Nev s)
  (hs:∀ x,foldedSetIterable iter env x = pure x) :
  wpAny (model prog w) A (exec (.For target iter body [] pos) env) Q Nev s:=by
 refine wpAny_For (wpAny_mono h (fun xv s₁ h₁=>wpAny_mono h₁ (fun it s₂ h₂=>?_) fun Z Z e=>e) fun Z Z e=>e) hs
 refine codeAny_mono h₂ fun r s' hr=>?_
 cases r with
 | ok f=>exact hr
 | error e=>exact hr.elim
end
end Mine
end
section
namespace Mine
section
variable {prog:Program} {w:World} {A:Around} {env:Env} {b:Heap} {body:List Stmt} {s:Shared} {m:Str → Option Value} {ex Rst:List (Addr × Obj)} {Q:Flow → Shared → Prop}
noncomputable abbrev C5e (Q:Flow → Shared → Prop):Result → Shared → Prop:=fun r s'=>match r with | .ok f=>Q f s' | .error J=>False
theorem Led.push {h:Heap} {L:Addr} {l:List (Addr × Obj)} (D:Led b L h l) (o:Obj):Led b L (h.push o) l:=D.keep fun p hp=>Heap.get?_push_of_some _ (D.n p hp).1
theorem C4u {x:Str} {px:Pos} {I:Addr} {fp:List Addr} {n:Nat} {P:Nat → Value → Prop} {St:Nat → Heap → Prop} (W:Walks prog w A I fp [I] n P St)
  (hx:env.kindOf x = some .local) (hp:(env.scope.kind == .class || (env.scope.kind == .module && env.locals != env.globals)) = false)
  (hL:env.locals ∉ fp) (hwr:b.get? I = none) (hex:∀ i h,St i h → ∃ o,h.get? I = some o)
  (hfp:∀ a ∈ fp,a = I ∨ (∃ o,(a,o) ∈ Rst) ∨ (∃ o,b.get? a = some o))
  (hst:St 0 s.heap) (F:Fr b env.locals s.heap m) (D:Led b env.locals s.heap (ex ++ Rst)) (hw:∀ p ∈ ex ++ Rst,p.1 ≠ I)
  (J:Nat → (Str → Option Value) → List (Addr × Obj) → Array GenState → Prop) (h0:J 0 m ex s.gens)
  (step:∀ i v m₁ ex₁ g h₁ tk T,i < n → P i v → J i m₁ ex₁ g → (∀ p ∈ Rst,p ∈ T) → Fr b env.locals h₁ (fun y=>if y = x then some v else m₁ y) → Led b env.locals h₁ (ex₁ ++ T) →
   wpAny (model prog w) A (execs body env) (StepEnd b env.locals (J (i + 1)) T s (C5e Q)) Nev { s with heap:=h₁,toks:=tk,gens:=g })
  (done:∀ h' tk g m' ex',J n m' ex' g → Fr b env.locals h' m' → Led b env.locals h' (ex' ++ Rst) → Q .next { s with heap:=h',toks:=tk,gens:=g }) :
  B4n prog w A env (.Name x px) body Q (.ref I) s:=by
 refine D0i (R:=C5e Q) (KTurns.ofWalks W fun Z Z Z Z Z Z hq=>wpAny_pure hq) hL (fun a ha=>by rw [List.mem_singleton.mp ha]; exact hwr) (List.nodup_cons.mpr ⟨by simp,.nil⟩)
  (fun i h st a ha=>by rw [List.mem_singleton.mp ha]; exact hex i h st) (fun a ha=>(hfp a ha).imp (fun e=>by rw [e]; exact .head _) id) hst F D (fun p hp hm=>hw p hp (List.mem_singleton.mp hm)) J h0 ?_ done
 intro i v m₁ ex₁ g h₁ tk T hi hP hJ hT F₁ D₁
 refine wpAny_assign_Name (wpAny_storeName_local hx F₁.ns (fun h' hn hs=>?_) hp)
 exact step i v m₁ ex₁ g h' _ T hi hP hJ hT (F₁.set hn hs) (D₁.keep fun p hp=>(hs.2 p.1 (D₁.n p hp).2.1).trans (D₁.n p hp).1)
end
theorem B7a {σ α:Type} (f:Option σ → α → Option σ) (hn:∀ c,f none c = none):∀ l:List α,l.foldl f none = none
 | []=>rfl
 | c :: l=>by rw [List.foldl_cons,hn,B7a f hn l]
section
variable {prog:Program} {w:World} {A:Around} {E:Value → Shared → Prop} {s:Shared} {b:Heap} {L:Addr} {m:Str → Option Value} {news news':List (Addr × Obj)}
theorem D0m {value slice:Expr} {l:Addr} {its:List Value} {k:Nat} {j:Int} {t:Tok} {v:Value} {Q:Value → Shared → Prop} (N:News b L s.heap news) (hm:(l,listOf its.toArray k) ∈ news)
  (h0:0 ≤ j) (hhi:j < 2 ^ 63) (hx:its[j.toNat]? = some v)
  (hs:subscripted slice false (.ref l) (.int j t) = operate [.ref l,.int j t] (getItem (.ref l) (.int j t))) (h:Q v s) :
  wpAny (model prog w) A (subscriptTail value slice (.ref l) (.int j t)) Q E s :=
 have hL:s.heap.IsList l its.toArray:=⟨_,(N _ hm).1,rfl,k,rfl⟩
 tail_any hL.typeIs slot_list_getitem.lookup (wpAny_getItem_list hL h0 hhi (by simpa using hx) h) hs
end
theorem B2b (c d:Nat) (x:Str) (hx:x = ⟨#[d]⟩):((⟨#[c]⟩:Str) == x) = decide (c = d):=by
 subst hx
 rw [Bool.eq_iff_iff]
 simp
noncomputable def Halt (p:Prop):Prop:=p
theorem Halt.mk {p:Prop} (h:Halt p):p:=h
theorem Halt.out {p:Prop} (h:p):Halt p:=h
end Mine
namespace Ab
open Classical in
theorem cut (h:Heap) (L:Nat) (p:Addr → Prop):∃ b:Heap,b.objs.size = L ∧ ∀ a,b.get? a = if a < L ∧ p a then h.get? a else Option.none:=by
 let fr:Obj:={ cls:=.none,data:=.freed }
 refine ⟨⟨(Array.range L).map fun a=>if p a then (match h.objs[a]? with | some o=>o | Option.none=>fr) else fr,{}⟩,by simp,fun a=>?_⟩
 unfold Heap.get?
 by_cases ha:a < L
 ·by_cases hp:p a
  ·have e:((Array.range L).map fun a=>if p a then (match h.objs[a]? with | some o=>o | Option.none=>fr) else fr)[a]? = some (match h.objs[a]? with | some o=>o | Option.none=>fr):=by
    simp [ha,hp]
   have ht:(a < L ∧ p a):=⟨ha,hp⟩
   rw [e]
   rw [if_pos ht]
   cases h.objs[a]? with
   | none=>rfl
   | some o=>rfl
  ·have e:((Array.range L).map fun a=>if p a then (match h.objs[a]? with | some o=>o | Option.none=>fr) else fr)[a]? = some fr:=by
    simp [ha,hp]
   rw [e]
   rw [if_neg fun q=>hp q.2]
 ·have e:((Array.range L).map fun a=>if p a then (match h.objs[a]? with | some o=>o | Option.none=>fr) else fr)[a]? = Option.none:=by
   rw [Array.getElem?_eq_none]
   rw [Array.size_map,Array.size_range]
   exact Nat.not_lt.mp ha
  rw [e]
  rw [if_neg fun q=>ha q.1]
end Ab
end
section
namespace Mine
section
variable {M:Model} {A:Around} {R:GenEnd} {Y:Protocol} {n:Nat} {s₀:Shared} {c:Code} {fs:List Frame} {s:Shared} {env:Env}
  {K:Flow → Sem Fin} {H:Value → Sem Fin} {gd:Bool → Bool} {lv:List Value → List Value}
theorem B7q {st:Stmt} {rest:List Stmt} (h:wpAny M (A.over c fs) (exec st env) (fun f s'=>f = .next ∧ Seg M A R Y n s₀ c ((execs rest env).wrap K H gd lv) fs s') Nev s) :
    Seg M A R Y n s₀ c ((execs (st :: rest) env).wrap K H gd lv) fs s :=
  seg_execs_cons (seg_wrap (wpAny_mono h (fun f s' hf=>by obtain ⟨rfl,hf⟩:=hf; exact hf) fun Z Z x=>x.elim))
theorem D4c {test:Expr} {body orelse:List Stmt} {pos:Pos}
    (h:wpAny M (A.over c fs) (isTrue test env (eval test env)) (fun b s'=>Seg M A R Y n s₀ c ((if b then execs body env else execs orelse env).wrap K H gd lv) fs s') Nev s) :
    Seg M A R Y n s₀ c ((exec (.If test body orelse pos) env).wrap K H gd lv) fs s:=by
  rw [exec_If]
  show Seg M A R Y n s₀ c (.at pos fun Z=>((isTrue test env (eval test env) >>= fun b=>if b then execs body env else execs orelse env)).wrap K H gd lv) fs s
  refine seg_at ?_
  rw [Sem.bind_eq_wrap',Sem.wrap_wrap]
  exact seg_wrap (wpAny_mono h Mine.idE fun Z Z x=>x.elim)
noncomputable def retK (env : Env) (K : Flow → Sem Fin) (H : Value → Sem Fin) (gd : Bool → Bool) (lv : List Value → List Value) : Result → Sem Fin := fun r => ((match r with | .ok f => (.pure f : Sem Flow) | .error e => .raise e).onRaise fun (x : Value) => do
        if (← field x 1) == Value.none then unsupported "frame.own-activation:exception-without-traceback"
        setFlight x env.frame).wrap K H gd lv
theorem D7w {target iter:Expr} {body orelse:List Stmt} {pos:Pos}
    (h:wpAny M (A.over c fs) (eval iter env) (fun x s₁=>wpAny M (A.over c fs) (pyIter x) (fun it s₂=>∀ p,Seg M A R Y n s₀ (.forLoop target it body orelse env) (M.den (.forLoop target it body orelse env))
      (.ret (retK env K H gd lv) none (gd false) (lv []) c p [] :: fs) s₂) Nev s₁) Nev s)
    (hs:∀ x,foldedSetIterable iter env x = pure x) :
    Seg M A R Y n s₀ c ((exec (.For target iter body orelse pos) env).wrap K H gd lv) fs s:=by
  rw [exec_For]
  have e : (do standAt pos
               let x ← foldedSetIterable iter env (← eval iter env)
               standAt iter.pos
               runOwn (.forLoop target (← holding [x] (pyIter x)) body orelse env) env:Sem Flow) =
      (do standAt pos
          let x ← eval iter env
          standAt iter.pos
          let it ← holding [x] (pyIter x)
          runOwn (.forLoop target it body orelse env) env):=by
    refine congrArg _ (funext fun Z=>congrArg _ (funext fun x=>?_))
    rw [hs x]; rfl
  rw [e]
  show Seg M A R Y n s₀ c (.at pos fun Z=>(eval iter env >>= fun x=>(standAt iter.pos >>= fun Z=>(holding [x] (pyIter x) >>= fun it=>runOwn (.forLoop target it body orelse env) env))).wrap K H gd lv) fs s
  refine seg_at ?_
  rw [Sem.bind_eq_wrap',Sem.wrap_wrap]
  refine seg_wrap (wpAny_mono h (fun x s₁ h₁=>?_) fun Z Z x=>x.elim)
  show Seg M A R Y n s₀ c (.at iter.pos fun Z=>(holding [x] (pyIter x) >>= fun it=>runOwn (.forLoop target it body orelse env) env).wrap K H _ _) fs s₁
  refine seg_at ?_
  rw [Sem.bind_eq_wrap',Sem.wrap_wrap]
  refine seg_wrap (wpAny_holding (wpAny_mono h₁ (fun it s₂ h₂=>?_) fun Z Z x=>x.elim))
  exact seg_call h₂
theorem D7v {p:Pos} {f:Flow} {g:Bool} {l:List Value} {c₁:Code} {hd:Option Value} (h:Seg M A R Y n s₀ c₁ (K f) fs s) :
    Seg M A R Y n s₀ c (.pure (.done f)) (.ret (retK env K H gd lv) hd g l c₁ p [] :: fs) s :=
  seg_leaf (.ok f) h
end
section
variable {prog:Program} {w:World} {A:Around} {R:GenEnd} {Y:Protocol} {n:Nat} {s₀:Shared} {fs:List Frame} {s:Shared} {env:Env}
theorem B6r {target:Expr} {it:Value} {body orelse:List Stmt}
    (h:wpAny (model prog w) (A.over (.forLoop target it body orelse env) fs) (pyNext it) (fun r s₁=>match r with
      | none=>Seg (model prog w) A R Y n s₀ (.block orelse env) ((model prog w).den (.block orelse env)) fs s₁
      | some v=>wpAny (model prog w) (A.over (.forLoop target it body orelse env) fs) (letOwnedTupleGo target it v) (fun Z s₂ =>
          wpAny (model prog w) (A.over (.forLoop target it body orelse env) fs) (assign target env v) (fun Z s₃ =>
            Seg (model prog w) A R Y n s₀ (.forLoop target it body orelse env) ((execs body env).wrap (fun f=>match f with
              | .next | .cont=>.pure (.again (.forLoop target it body orelse env))
              | .brk=>.pure (.done .next)
              | .ret v => .pure (.done (.ret v))) (fun e => (do noteFrame e env; theTreesLotGoes e : Sem Unit).wrap (fun Z => .raise e) .raise id id) id id) fs s₃) Nev s₂) Nev s₁) Nev s) :
    Seg (model prog w) A R Y n s₀ (.forLoop target it body orelse env) ((model prog w).den (.forLoop target it body orelse env)) fs s:=by
  show Seg _ A R Y n s₀ _ ((forTurn target it body orelse env).onRaise (fun x => do noteFrame x env; theTreesLotGoes x)) fs s
  unfold forTurn
  rw [Sem.onRaise_eq_wrap]
  show Seg _ A R Y n s₀ _ (.at target.pos fun Z=>Sem.wrap _ _ _ _ (((pyNext it).onRaise (fun Z=>standAt { target.pos with line:=0 })) >>= _)) fs s
  refine seg_at ?_
  rw [Sem.bind_eq_wrap',Sem.wrap_wrap,Sem.onRaise_eq_wrap,Sem.wrap_wrap]
  refine seg_wrap (wpAny_mono h (fun r s₁ h₁=>?_) fun Z Z x=>x.elim)
  cases r with
  | none=>exact seg_again rfl h₁
  | some v =>
    show Seg _ A R Y n s₀ _ (Sem.wrap _ _ _ _ (letOwnedTupleGo target it v >>= _)) fs s₁
    rw [Sem.bind_eq_wrap',Sem.wrap_wrap]
    refine seg_wrap (wpAny_mono h₁ (fun Z s₂ h₂=>?_) fun Z Z x=>x.elim)
    show Seg _ A R Y n s₀ _ (Sem.wrap _ _ _ _ (assign target env v >>= _)) fs s₂
    rw [Sem.bind_eq_wrap',Sem.wrap_wrap]
    refine seg_wrap (wpAny_mono h₂ (fun Z s₃ h₃=>?_) fun Z Z x=>x.elim)
    show Seg _ A R Y n s₀ _ (Sem.wrap _ _ _ _ (execs body env >>= _)) fs s₃
    rw [Sem.bind_eq_wrap',Sem.wrap_wrap]
    rw [Sem.wrap_congr (execs body env) _ _ (K':=fun f=>match f with
            | .next | .cont=>.pure (.again (.forLoop target it body orelse env))
            | .brk=>.pure (.done .next)
            | .ret v => .pure (.done (.ret v))) (H' := (fun e => (do noteFrame e env; theTreesLotGoes e : Sem Unit).wrap (fun Z => .raise e) .raise id id))
        (fun f=>by cases f <;> rfl)
        (fun e => by first | exact Sem.bind_eq_wrap _ _ | (show (do noteFrame e env; theTreesLotGoes e : Sem Unit).bind (fun Z => .raise e) = _; rw [Sem.bind_eq_wrap]))]
    exact h₃
theorem B9g {p:Pos} {g:Bool} {l:List Value} {c₁:Code} {hd:Option Value} {K:Flow → Sem Fin} {H:Value → Sem Fin} {gd:Bool → Bool} {lv:List Value → List Value} {env':Env}
    (h:Seg (model prog w) A R Y n s₀ c₁ (K .next) fs s) :
    Seg (model prog w) A R Y n s₀ (.block [] env) ((model prog w).den (.block [] env)) (.ret (retK env' K H gd lv) hd g l c₁ p [] :: fs) s:=by
  show Seg _ A R Y n s₀ _ (.pure (.done .next)) _ s
  exact D7v h
end
end Mine
end
section
namespace Mine
noncomputable def B0f (i:Nat) (e:Bool) (l:List Nat):List (Int × Str):=@List.rec Nat (fun _=>Nat → Bool → List (Int × Str)) (fun i e=>if e then [(((i - 1:Nat):Int),⟨#[92]⟩)] else [])
 (fun c _ ih i e=>if e then ((i:Int),⟨#[92,c]⟩) :: ih (i + 1) false else if c = 92 then ih (i + 1) true else ((i:Int),⟨#[c]⟩) :: ih (i + 1) false) l i e
structure KeptG (own:List Addr) (s₀ s:Shared):Prop where
 heap:∀ a o,a ∉ own → s₀.heap.get? a = some o → s.heap.get? a = some o
 gens:s.gens = s₀.gens
 drawn:s.drawn = s₀.drawn
 os:s.os = s₀.os
theorem KeptG.refl {own:List Addr} {s:Shared}:KeptG own s s:=⟨fun Z Z Z e=>e,rfl,rfl,rfl⟩
theorem KeptG.trans {own:List Addr} {s₀ s₁ s₂:Shared} (x:KeptG own s₀ s₁) (y:KeptG own s₁ s₂):KeptG own s₀ s₂ :=
 ⟨fun a o h e=>y.heap a o h (x.heap a o h e),y.gens.trans x.gens,y.drawn.trans x.drawn,y.os.trans x.os⟩
noncomputable abbrev RG (own:List Addr):GenEnd:=fun n s₀ r s₁=>r = .ok (.ret .none) ∧ n = 0 ∧ KeptG own s₀ s₁
noncomputable def Gave (b:Heap) (own:List Addr) (x:Int × Str) (s₀:Shared) (v:Value) (s₁:Shared):Prop :=
 ∃ T t1 t2,v = .ref T ∧ s₁.heap.IsTuple T #[.int x.1 t1,.str x.2 t2] ∧ s₀.heap.get? T = none ∧ b.get? T = none ∧ T ∉ own
noncomputable def YG (b:Heap) (own:List Addr) (X:List (Int × Str)):Protocol:=fun n s₀ v s₁ kap =>
 KeptG own s₀ s₁ ∧ (∃ x,X[X.length - (n + 1)]? = some x ∧ Gave b own x s₀ v s₁) ∧ (∀ a o,b.get? a = some o → s₁.heap.get? a = some o) ∧
 ∀ s'',(∀ a ∈ own,∀ o,s₁.heap.get? a = some o → s''.heap.get? a = some o) → (∀ a o,b.get? a = some o → s''.heap.get? a = some o) → kap (.send .none) s''
theorem C7r {M:Model} {A:Around} {R:GenEnd} {Y:Protocol} {c:Code} {t:Sem Fin} {fs:Pos → List Frame} {n:Nat} (cnt:Nat → Bool → Nat) (Inv:Nat → Bool → Shared → Shared → Prop)
  (step:∀ i e s₀ s,i ≤ n → Inv i e s₀ s → (∀ e' s₀' s',i < n → Inv (i + 1) e' s₀' s' → ∀ p,Seg M A R Y (cnt (i + 1) e') s₀' c t (fs p) s') → ∀ p,Seg M A R Y (cnt i e) s₀ c t (fs p) s)
  : ∀ k i e s₀ s,n - i = k → i ≤ n → Inv i e s₀ s → ∀ p,Seg M A R Y (cnt i e) s₀ c t (fs p) s
 | 0,i,e,s₀,s,J,hi,h=>step i e s₀ s hi h fun Z Z Z hlt Z=>by exact Ab.om314 (by assumption) hlt
 | k + 1,i,e,s₀,s,hk,hi,h=>step i e s₀ s hi h fun e' s₀' s' hlt h'=>C7r cnt Inv step k (i + 1) e' s₀' s' (by exact Ab.om25 hk hlt) (by exact Ab.om315 hlt) h'
noncomputable def B5c (b:Heap) (L:Addr) (h:Heap):List (Addr × Obj):=(List.range h.objs.size).filterMap fun a=>if a = L ∨ (b.get? a).isSome then none else (h.get? a).map fun o=>(a,o)
theorem B5w {b h:Heap} {L a:Addr} {o:Obj} (hL:a ≠ L) (hb:b.get? a = none) (ho:h.get? a = some o):(a,o) ∈ B5c b L h :=
 List.mem_filterMap.mpr ⟨a,List.mem_range.mpr (Heap.lt_size ho),by simp [hL,hb,ho]⟩
theorem B4c {b h:Heap} {L:Addr}:News b L h (B5c b L h):=by
 intro p hp
 obtain ⟨a,_,e⟩:=List.mem_filterMap.mp hp
 by_cases q:a = L ∨ (b.get? a).isSome
 ·rw [if_pos q] at e; cases e
 ·rw [if_neg q] at e
  cases ho:h.get? a with
  | none=>rw [ho] at e; cases e
  | some o =>
   rw [ho] at e
   cases e
   refine ⟨ho,fun z=>q (.inl z),?_⟩
   cases hb:b.get? a with
   | none=>rfl
   | some J=>exact absurd (.inr (by simp [hb])) q
theorem B2y {b h h':Heap} {L:Addr} {m m':Str → Option Value} {l:List (Addr × Obj)} (F:Fr b L h m) (F':Fr b L h' m') (N:News b L h' l) (hl:∀ p ∈ B5c b L h,p ∈ l) :
  ∀ a o,a ≠ L → h.get? a = some o → h'.get? a = some o:=by
 intro a o hL ho
 cases hb:b.get? a with
 | some o' =>
  have:=F.keep a o' hb
  rw [ho] at this; cases this
  exact F'.keep a _ hb
 | none=>exact (N _ (hl _ (B5w hL hb ho))).1
theorem B7o {prog:Program} {w:World} {A:Around} (hh:A.handled = none) (it:Addr) (x:Str) (t:Tok) :
  Draws prog w A it [it] x.cps.size (fun i v=>∃ c u,x.cps[i]? = some c ∧ v = .str ⟨#[c]⟩ u) (fun i h=>h.IsStrIter it (strIterType x) x t i):=by
 unfold strIterType
 cases x.cps.all (· < 128)
 ·exact Draws.strWide hh it x t
 ·exact Draws.strAscii hh it x t
theorem B4u {i:Nat} {c:Nat} {r:List Nat}:B0f i true (c :: r) = ((i:Int),⟨#[92,c]⟩) :: B0f (i + 1) false r:=rfl
theorem B7b {i:Nat} {r:List Nat}:B0f i false (92 :: r) = B0f (i + 1) true r:=rfl
theorem B0t {i:Nat} {c:Nat} {r:List Nat} (h:c ≠ 92):B0f i false (c :: r) = ((i:Int),⟨#[c]⟩) :: B0f (i + 1) false r:=by
 show (if c = 92 then B0f (i + 1) true r else ((i:Int),⟨#[c]⟩) :: B0f (i + 1) false r) = _
 exact if_neg h
theorem C5s {α:Type} {X pre:List α} {x:α} {r:List α} (h:X = pre ++ x :: r):X[X.length - (r.length + 1)]? = some x:=by
 subst h
 rw [show (pre ++ x :: r).length - (r.length + 1) = pre.length by simp]
 simp
theorem Fr.same {b h h':Heap} {L:Addr} {m:Str → Option Value} (F:Fr b L h m) (e:∀ o,h.get? L = some o → h'.get? L = some o) (k:∀ a o,b.get? a = some o → h'.get? a = some o):Fr b L h' m :=
 ⟨F.ns.at' fun o q=>e o q,k,F.above⟩
theorem D0r {M:Model} {A:Around} {R:GenEnd} {Y:Protocol} {c:Code} {t:Sem Fin} {fs:Pos → List Frame} {n n0 i:Nat} {e:Bool} {s₀ s:Shared} (cnt:Nat → Bool → Nat) (Inv:Nat → Bool → Shared → Shared → Prop)
  (hn:n0 = cnt i e) (hi:i ≤ n) (h:Inv i e s₀ s)
  (step:∀ i e s₀ s,i ≤ n → Inv i e s₀ s → (∀ e' s₀' s',i < n → Inv (i + 1) e' s₀' s' → ∀ p,Seg M A R Y (cnt (i + 1) e') s₀' c t (fs p) s') → ∀ p,Seg M A R Y (cnt i e) s₀ c t (fs p) s) :
  ∀ p,Seg M A R Y n0 s₀ c t (fs p) s:=by
 subst hn
 exact C7r cnt Inv step _ i e s₀ s rfl hi h
theorem YG.of {b:Heap} {own:List Addr} {X pre rest:List (Int × Str)} {x:Int × Str} {s₀ s₁:Shared} {v:Value} {kap:Resume → Shared → Prop} {L:Addr} {h6:Heap} {D:Addr} {t1 t2:Tok} {l:List (Addr × Obj)}
  (hX:X = pre ++ x :: rest) (hLo:L ∈ own) (hb:∀ a o,b.get? a = some o → s₁.heap.get? a = some o)
  (k06:∀ a o,a ∉ own → s₀.heap.get? a = some o → h6.get? a = some o) (k61:∀ a o,a ≠ L → h6.get? a = some o → s₁.heap.get? a = some o)
  (N:News b L s₁.heap ((D,{ cls:=.type "tuple",data:=.seq #[.int x.1 t1,.str x.2 t2] }) :: l)) (l1:∀ p ∈ B5c b L h6,p.1 < D) (hv:v = .ref D)
  (al:∀ a ∈ own,a = L ∨ ∃ a' o,@LE.le Nat _ a a' ∧ a' ≠ L ∧ b.get? a' = none ∧ h6.get? a' = some o)
  (g:s₁.gens = s₀.gens) (d:s₁.drawn = s₀.drawn) (o:s₁.os = s₀.os)
  (hk:∀ s'',(∀ a ∈ own,∀ o,s₁.heap.get? a = some o → s''.heap.get? a = some o) → (∀ a o,b.get? a = some o → s''.heap.get? a = some o) → kap (.send .none) s'') :
  YG b own X rest.length s₀ v s₁ kap:=by
 have hD:=N _ (.head _)
 have hDo:D ∉ own:=by
  intro hm
  rcases al D hm with e | ⟨a',o,hle,hn,hb',e⟩
  ·exact hD.2.1 e
  ·exact absurd (l1 _ (B5w hn hb' e)) (Nat.not_lt.mpr hle)
 refine ⟨⟨fun a o ha e=>k61 a o (fun q=>ha (q ▸ hLo)) (k06 a o ha e),g,d,o⟩,⟨x,C5s hX,D,t1,t2,hv,⟨_,hD.1,rfl,0,rfl⟩,?_,hD.2.2,hDo⟩,hb,hk⟩
 cases q:s₀.heap.get? D with
 | none=>rfl
 | some o=>exact absurd (l1 _ (B5w hD.2.1 hD.2.2 (k06 D o hDo q))) (Nat.lt_irrefl _)
end Mine
end
section
set_option backward.match.sparseCases false
section
namespace Ab
inductive IOp0 (α:Type) | add | sub | mul | fdiv | fmod | eq | lt | pow
noncomputable abbrev IOp:=IOp0 Unit
noncomputable def IOp0.ctorIdx {α:Type} (x:IOp0 α):Nat:=@IOp0.casesOn α (fun _=>Nat) x 0 1 2 3 4 5 6 7
noncomputable def IOp.back (n:Nat):IOp:=[IOp0.add,.sub,.mul,.fdiv,.fmod,.eq,.lt].getD n .pow
theorem IOp.bk:∀ x:IOp,IOp.back x.ctorIdx = x:=fun x=>by cases x <;> rfl
inductive IE | lit (i:Int) | var (n:Nat) | op (k:IOp) (a b:IE)
noncomputable def IE.ctorIdx (x:IE):Nat:=@IE.casesOn (fun _=>Nat) x (fun _=>0) (fun _=>1) (fun _ _ _=>2)
noncomputable def eqE (x:IE):IE → Bool:=@IE.rec (fun _=>IE → Bool) (fun i y=>match y with | .lit j=>decide (i = j) | _=>false) (fun i y=>match y with | .var j=>Nat.beq i j | _=>false) (fun k a b p q y=>match y with | .op l c d=>Nat.beq k.ctorIdx l.ctorIdx && (p c && q d) | _=>false) x
theorem B4v:∀ x y:IE,eqE x y = true → x = y
 | .lit i,y,h=>by
  cases y with
  | lit j=>exact congrArg IE.lit (of_decide_eq_true h)
  | _=>exact absurd h Bool.false_ne_true
 | .var i,y,h=>by
  cases y with
  | var j=>exact congrArg IE.var (Nat.eq_of_beq_eq_true h)
  | _=>exact absurd h Bool.false_ne_true
 | .op k a b,y,h=>by
  cases y with
  | op l c d =>
   have h:=(Bool.and_eq_true _ _).mp h
   have h2:=(Bool.and_eq_true _ _).mp h.2
   rw [(IOp.bk k).symm.trans ((congrArg IOp.back (Nat.eq_of_beq_eq_true h.1)).trans (IOp.bk l)),B4v a c h2.1,B4v b d h2.2]
  | _=>exact absurd h Bool.false_ne_true
noncomputable def b2i (b:Bool):Int:=match b with | true=>1 | false=>0
noncomputable def powI (a:Int) (n:Nat):Int:=match a with
 | .ofNat k=>.ofNat (k ^ n)
 | .negSucc k=>match Nat.beq (n % 2) 0 with
  | true=>.ofNat ((k + 1) ^ n)
  | false=>Int.negOfNat ((k + 1) ^ n)
noncomputable def IOp.sem:IOp → Int → Int → Int
 | .add,a,b=>a + b
 | .sub,a,b=>a - b
 | .mul,a,b=>a * b
 | .fdiv,a,b=>Int.fdiv a b
 | .fmod,a,b=>Int.fmod a b
 | .eq,a,b=>b2i (a == b)
 | .lt,a,b=>b2i (decide (a < b))
 | .pow,a,b=>powI a b.toNat
noncomputable def IE.sem (θ:Nat → Int):IE → Int
 | .lit i=>i
 | .var n=>θ n
 | .op k a b=>k.sem (a.sem θ) (b.sem θ)
inductive BI0 (α:Type) | len | sum | int | range | enumerate | list
noncomputable abbrev BI:=BI0 Unit
noncomputable def BI0.ctorIdx {α:Type} (x:BI0 α):Nat:=@BI0.casesOn α (fun _=>Nat) x 0 1 2 3 4 5
noncomputable def BI.back (n:Nat):BI:=[BI0.len,.sum,.int,.range,.enumerate].getD n .list
theorem BI.bk:∀ x:BI,BI.back x.ctorIdx = x:=fun x=>by cases x <;> rfl
inductive Mt0 (α:Type) | append | count | join | push | tok | index
noncomputable abbrev Mt:=Mt0 Unit
noncomputable def Mt0.ctorIdx {α:Type} (x:Mt0 α):Nat:=@Mt0.casesOn α (fun _=>Nat) x 0 1 2 3 4 5
inductive Pc | ch (c:Nat) | var (i:Nat) | esc (i:Nat) | blob (i:Nat)
noncomputable def Pc.ctorIdx (x:Pc):Nat:=@Pc.casesOn (fun _=>Nat) x (fun _=>0) (fun _=>1) (fun _=>2) (fun _=>3)
noncomputable def pcE (l:List Pc):List Nat:=@List.rec Pc (fun _=>List Nat) [] (fun g r ih=>match g with | .ch c=>0 :: c :: ih | .var c=>1 :: c :: ih | .esc c=>2 :: c :: ih | .blob c=>3 :: c :: ih) l
noncomputable def pcM (k c:Nat):Pc:=[Pc.ch c,.var c,.esc c].getD k (.blob c)
noncomputable def pcD (x:List Nat):Nat → List Pc:=@List.rec Nat (fun _=>Nat → List Pc) (fun J=>[]) (fun a J ih k=>@Nat.rec (fun _=>List Pc) (ih (a + 1)) (fun j Y=>pcM j a :: ih 0) k) x
theorem C4n:∀ gs:List Pc,pcD (pcE gs) 0 = gs
 | []=>rfl
 | .ch c :: r=>congrArg (Pc.ch c :: ·) (C4n r)
 | .var c :: r=>congrArg (Pc.var c :: ·) (C4n r)
 | .esc c :: r=>congrArg (Pc.esc c :: ·) (C4n r)
 | .blob c :: r=>congrArg (Pc.blob c :: ·) (C4n r)
inductive AV | none | bool (b:Bool) | int (i:Int) | sym (t:IE) | str (s:List Nat) | ref (n:Nat) | glob (a:Nat) | bi (b:BI) | pc (gs:List Pc) | opq (i:Nat)
noncomputable def AV.ctorIdx (x:AV):Nat:=@AV.casesOn (fun _=>Nat) x 0 (fun _=>1) (fun _=>2) (fun _=>3) (fun _=>4) (fun _=>5) (fun _=>6) (fun _=>7) (fun _=>8) (fun _=>9)
inductive AO | junk | list (xs:List AV) | tup (xs:List AV) | cell (v:Option AV) | lex (y:List Nat) (k:Nat) (pb:List AV) | tab (a:Nat) (k:Nat) | stat (xs:List AV)
noncomputable def AO.ctorIdx (x:AO):Nat:=@AO.casesOn (fun _=>Nat) x 0 (fun _=>1) (fun _=>2) (fun _=>3) (fun _ _ _=>4) (fun _ _=>5) (fun _=>6)
inductive Tr | nil | node (v:AO) (l r:Tr)
noncomputable def Tr.get (t:Tr):Nat → AO:=@Tr.rec (fun _=>Nat → AO) (fun J=>.junk) (fun v J Y l r i=>@Bool.rec (fun _=>AO) (@Bool.rec (fun _=>AO) (r (i / 2 - 1)) (l (i / 2)) (Nat.beq (i % 2) 1)) v (Nat.beq i 0)) t
noncomputable def Tr.setF (k:Nat):Tr → Nat → AO → Tr:=@Nat.rec (fun _=>Tr → Nat → AO → Tr) (fun t J Y=>t) (fun J ih t i o=>@Tr.rec (fun _=>Tr)
 (@Bool.rec (fun _=>Tr) (@Bool.rec (fun _=>Tr) (.node .junk .nil (ih .nil (i / 2 - 1) o)) (.node .junk (ih .nil (i / 2) o) .nil) (Nat.beq (i % 2) 1)) (.node o .nil .nil) (Nat.beq i 0))
 (fun v l r J Y=>@Bool.rec (fun _=>Tr) (@Bool.rec (fun _=>Tr) (.node v l (ih r (i / 2 - 1) o)) (.node v (ih l (i / 2) o) r) (Nat.beq (i % 2) 1)) (.node o l r) (Nat.beq i 0)) t) k
structure St where
 n:Nat
 t:Tr
noncomputable def St.get (H:St) (i:Nat):AO:=H.t.get i
noncomputable def St.set (H:St) (i:Nat) (o:AO):St:=⟨H.n,Tr.setF (i + 1) H.t i o⟩
noncomputable def St.new (H:St) (o:AO):Nat × St:=(H.n,⟨H.n + 1,Tr.setF (H.n + 1) H.t H.n o⟩)
inductive Sl | loc (i:Nat) | cel (i:Nat)
inductive Tg | one (x:Sl) | two (x y:Sl)
inductive BOp0 (α:Type) | add | sub | mul | fdiv | fmod | pow
noncomputable abbrev BOp:=BOp0 Unit
noncomputable def BOp0.ctorIdx {α:Type} (x:BOp0 α):Nat:=@BOp0.casesOn α (fun _=>Nat) x 0 1 2 3 4 5
inductive COp0 (α:Type) | eq | ne | lt | in_ | isn | gt
noncomputable abbrev COp:=COp0 Unit
noncomputable def COp0.ctorIdx {α:Type} (x:COp0 α):Nat:=@COp0.casesOn α (fun _=>Nat) x 0 1 2 3 4 5
inductive E
 | lit (v:AV) | loc (i:Nat) | cel (i:Nat)
 | bin (o:BOp) (a b:E) | neg (a:E)
 | cmp (o:COp) (a b:E) | chn (a:E) (o:COp) (b:E) (rest:List (COp × E)) | esc (i:Nat) (c a b:E) | and (as:List E) | or (as:List E)
 | tup (as:List E) | lst (as:List E)
 | sub (a i:E) | slc (a:E) (lo hi st:Option E)
 | call (f:AV) (as:List E) | meth (o:E) (m:Mt) (as:List E) | line (o:E)
 | comp (elt:E) (t:Tg) (k:Nat) (it:E) (ifs:List E) (nl:Nat) (cl:List (Option Nat))
/- k: how the source is walked: 0 as it lies,1 enumerate of it,2 range(it),3 range(first,it) with a pair display in it -/
inductive S
 | expr (e:E) | asg (t:Sl) (e:E) | unp (ts:List (Nat × Sl)) (e:E) | aug (t:Sl) (o:BOp) (e:E)
 | iff (c:E) (a b:List S) | fr (t:Tg) (k:Nat) (it:E) (b:List S)
 | ret (e:E) | augs (o i:Nat) (b:BOp) (e:E)
structure Fm where
 loc:List (Option AV)
 cel:List Nat
 dep:Nat
inductive Flo | nxt | ret (v:AV)
noncomputable def Flo.ctorIdx (x:Flo):Nat:=@Flo.casesOn (fun _=>Nat) x 0 (fun _=>1)
structure FnC where
 np:Nat
 nl:Nat
 nc:Nat
 par:List Sl
 body:List S
structure Cx where
 ft:List (Nat × FnC)
 pr:List (Nat × Nat × (List AV → St → Option (AV × St)))
 facts:IE → Option Int
 bnd:IE → Option Nat
noncomputable abbrev Ro:=Option (AV × St)
structure Rn where
 ev:E → Fm → St → Option (AV × St)
 ts:E → Fm → St → Option (Bool × St)
 ex:List S → Fm → St → Option (Flo × Fm × St)
 ca:Nat → AV → List AV → St → Option (AV × St)
noncomputable def apL {α:Type} (l m:List α):List α:=@List.rec α (fun _=>List α) m (fun a J ih=>a :: ih) l
theorem B4b {α:Type}:∀ l m:List α,apL l m = l ++ m
 | [],m=>rfl
 | a :: l,m=>congrArg (a :: ·) (B4b l m)
noncomputable def B5y {α:Type} (l:List α):Nat:=@List.rec α (fun _=>Nat) 0 (fun J Y ih=>.succ ih) l
theorem B1n {α:Type}:∀ l:List α,B5y l = l.length
 | []=>rfl
 | a :: l=>congrArg Nat.succ (B1n l)
theorem leL {α:Type} {l:List α} {n:Nat} (h:Nat.ble (B5y l) n = true):l.length ≤ n:=B1n l ▸ nYY h
noncomputable def eqZ (x y:Int):Bool:=@Int.rec (fun _=>Bool) (fun m=>@Int.rec (fun _=>Bool) (fun n=>Nat.beq m n) (fun J=>false) y) (fun m=>@Int.rec (fun _=>Bool) (fun J=>false) (fun n=>Nat.beq m n) y) x
theorem C3j {x y:Int} (h:eqZ x y = true):x = y:=by
 cases x <;> cases y <;> first | exact congrArg Int.ofNat (Nat.eq_of_beq_eq_true h) | exact congrArg Int.negSucc (Nat.eq_of_beq_eq_true h) | exact absurd h Bool.false_ne_true
theorem F0c (x y:Int):eqZ x y = (x == y):=by
 cases h:eqZ x y with
 | true=>rw [C3j h]; exact (beq_self_eq_true y).symm
 | false =>
  refine (beq_eq_false_iff_ne.mpr fun e=>?_).symm
  rw [e] at h
  cases y <;> exact absurd (h.symm.trans (Nat.beq_refl _)) Bool.false_ne_true
noncomputable def addZ (x y:Int):Int:=@Int.rec (fun _=>Int) (fun m=>@Int.rec (fun _=>Int) (fun n=>.ofNat (Nat.add m n)) (fun n=>Int.subNatNat m (.succ n)) y) (fun m=>@Int.rec (fun _=>Int) (fun n=>Int.subNatNat n (.succ m)) (fun n=>.negSucc (.succ (Nat.add m n))) y) x
theorem C9a (x y:Int):addZ x y = x + y:=by cases x <;> cases y <;> rfl
noncomputable def mulZ (x y:Int):Int:=@Int.rec (fun _=>Int) (fun m=>@Int.rec (fun _=>Int) (fun n=>.ofNat (Nat.mul m n)) (fun J=>x * y) y) (fun J=>x * y) x
theorem D4w (x y:Int):mulZ x y = x * y:=by cases x <;> cases y <;> rfl
noncomputable def onB {α β:Type} (x:Option α) (k:α → Option β):Option β:=@Option.rec α (fun _=>Option β) Option.none k x
noncomputable def on2 {β γ:Type} (x:Option (β × St)) (k:β → St → Option γ):Option γ:=@Option.rec (β × St) (fun _=>Option γ) none (@Prod.rec β St (fun _=>Option γ) k) x
noncomputable def ifB {γ:Type} (b:Bool) (t f:Option γ):Option γ:=@Bool.rec (fun _=>Option γ) f t b
noncomputable def tsB {γ:Type} (x:Option (Bool × St)) (k1 k0:St → Option γ):Option γ:=on2 x fun b H=>@Bool.rec (fun _=>Option γ) (k0 H) (k1 H) b
noncomputable def rv (o:Option AV) (H:St):Option (AV × St):=onB o fun v=>some (v,H)
noncomputable def rb (o:Option Bool):Option Bool:=onB o fun r=>some (@Bool.rec (fun _=>Bool) true false r)
noncomputable def rbv (o:Option Bool) (H:St):Option (AV × St):=onB o fun q=>some (.bool q,H)
noncomputable def rbb (o:Option Bool) (H:St):Option (Bool × St):=onB o fun q=>some (q,H)
noncomputable def D6y (x:List Nat):List Nat → Bool:=@List.rec Nat (fun _=>List Nat → Bool) (fun y=>@List.rec Nat (fun _=>Bool) true (fun J Y V=>false) y) (fun a x ih y=>@List.rec Nat (fun _=>Bool) false (fun b y J=>@Bool.rec (fun _=>Bool) false (ih y) (Nat.beq a b)) y) x
noncomputable def tie (v:AV):Option IE:=@AV.rec (fun _=>Option IE) none (fun J=>none) (fun i=>some (.lit i)) (fun t=>some t) (fun J=>none) (fun J=>none) (fun J=>none) (fun J=>none) (fun J=>none) (fun J=>none) v
noncomputable def fact (cx:Cx) (t:IE):AV:=match cx.facts t with
 | some c=>.int c
 | Option.none=>.sym t
noncomputable def lim:Nat:=100000
noncomputable abbrev intBits (a:Int):Nat:=Builtin.Int.intBits a
noncomputable def B0h {α γ:Type} (x:Option α) (f:α → γ) (g:γ):γ:=@Option.rec α (fun _=>γ) g f x
noncomputable def C1c (v:AV):Option Int:=@AV.rec (fun _=>Option Int) none (fun J=>none) (fun i=>some i) (fun J=>none) (fun J=>none) (fun J=>none) (fun J=>none) (fun J=>none) (fun J=>none) (fun J=>none) v
noncomputable def F1n (a b:AV):Option (Int × Int):=onB (C1c a) fun x=>onB (C1c b) fun y=>some (x,y)
noncomputable def natO (v:AV):Option Nat:=@AV.rec (fun _=>Option Nat) none (fun J=>none) (fun i=>@Int.rec (fun _=>Option Nat) (fun n=>some n) (fun J=>none) i) (fun J=>none) (fun J=>none) (fun J=>none) (fun J=>none) (fun J=>none) (fun J=>none) (fun J=>none) v
noncomputable def nonO (v:AV):Option Unit:=@AV.rec (fun _=>Option Unit) (some ()) (fun J=>none) (fun J=>none) (fun J=>none) (fun J=>none) (fun J=>none) (fun J=>none) (fun J=>none) (fun J=>none) (fun J=>none) v
noncomputable def D1h (v:AV):Option Bool:=@AV.rec (fun _=>Option Bool) none (fun b=>some b) (fun J=>none) (fun J=>none) (fun J=>none) (fun J=>none) (fun J=>none) (fun J=>none) (fun J=>none) (fun J=>none) v
noncomputable def gd (b:Bool):Option Unit:=@Bool.rec (fun _=>Option Unit) none (some ()) b
noncomputable def one? {α:Type} (l:List α):Option α:=@List.rec α (fun _=>Option α) none (fun a r J=>@List.rec α (fun _=>Option α) (some a) (fun J Y V=>none) r) l
noncomputable def B4q (v:AV):Option Nat:=@AV.rec (fun _=>Option Nat) none (fun J=>none) (fun J=>none) (fun J=>none) (fun J=>none) (fun a=>some a) (fun J=>none) (fun J=>none) (fun J=>none) (fun J=>none) v
noncomputable def B5a (v:AV):Option (List Nat):=@AV.rec (fun _=>Option (List Nat)) none (fun J=>none) (fun J=>none) (fun J=>none) (fun y=>some y) (fun J=>none) (fun J=>none) (fun J=>none) (fun J=>none) (fun J=>none) v
noncomputable def B9q (v:AO):Option (List AV):=@AO.rec (fun _=>Option (List AV)) none (fun l=>some l) (fun J=>none) (fun J=>none) (fun J Y V=>none) (fun J Y=>none) (fun J=>none) v
noncomputable def C5i (v:AO):Option (List AV):=@AO.rec (fun _=>Option (List AV)) none (fun J=>none) (fun l=>some l) (fun J=>none) (fun J Y V=>none) (fun J Y=>none) (fun J=>none) v
noncomputable def B9r (o:AV) (H:St):Option (Nat × List AV):=onB (B4q o) fun i=>onB (B9q (H.get i)) fun l=>some (i,l)
noncomputable def semF (k:IOp) (x y:Int):Int:=@IOp0.rec Unit (fun _=>Int → Int → Int) addZ (fun x y=>addZ x (Int.neg y)) mulZ (fun x y=>IOp.sem .fdiv x y) (fun x y=>IOp.sem .fmod x y) (fun x y=>IOp.sem .eq x y) (fun x y=>IOp.sem .lt x y) (fun x y=>IOp.sem .pow x y) k x y
theorem D4g (k:IOp) (x y:Int):semF k x y = k.sem x y:=by
 cases k with
 | add=>exact C9a x y
 | sub=>exact C9a x (Int.neg y)
 | mul=>exact D4w x y
 | _=>rfl
noncomputable def iopS (cx:Cx) (k:IOp) (a b:AV):Option AV:=onB (tie a) fun x=>onB (tie b) fun y=>some (fact cx (.op k x y))
noncomputable def iop (cx:Cx) (k:IOp) (a b:AV):Option AV:=B0h (F1n a b) (fun p=>some (.int (semF k p.1 p.2))) (iopS cx k a b)
noncomputable def bits? (cx:Cx) (v:AV):Option Nat:=@AV.rec (fun _=>Cx → Option Nat) (fun J=>none) (fun J Y=>none) (fun i cx=>some (intBits i)) (fun t cx=>cx.bnd t) (fun J Y=>none) (fun J Y=>none) (fun J Y=>none) (fun J Y=>none) (fun J Y=>none) (fun J Y=>none) v cx
noncomputable def isum (cx:Cx) (a:AV) (l:List AV):Option AV:=@List.rec AV (fun _=>AV → Option AV) (fun a=>some a) (fun v r ih a=>onB (iop cx .add a v) ih) l a
noncomputable def nz (v:AV):Bool:=B0h (C1c v) (fun i=>!(decide (i = 0)) && Nat.ble (intBits i) 8000) false
noncomputable def pcO (v:AV):Option (List Pc):=@AV.rec (fun _=>Option (List Pc)) none (fun J=>none) (fun J=>none) (fun J=>none) (fun J=>none) (fun J=>none) (fun J=>none) (fun J=>none) (fun y=>some y) (fun J=>none) v
noncomputable def pcs (v:AV):Option (List Pc):=@AV.rec (fun _=>Option (List Pc)) none (fun J=>none) (fun J=>none) (fun J=>none) (fun s=>some (s.map .ch)) (fun J=>none) (fun J=>none) (fun J=>none) (fun y=>some y) (fun J=>none) v
noncomputable def lenP (l:List Pc):Option Nat:=@List.rec Pc (fun _=>Option Nat) (some 0) (fun g r ih=>onB ih fun n=>@Pc.rec (fun _=>Nat → Option Nat) (fun J n=>some (n + 1)) (fun J n=>some (n + 1)) (fun J n=>some (n + 2)) (fun J n=>none) g n) l
noncomputable def C6h (a b:AV):Option (List Pc):=B0h (pcO a) (fun p=>onB (pcs b) fun q=>some (apL p q)) (onB (pcO b) fun q=>onB (pcs a) fun p=>some (apL p q))
noncomputable def pcV (gs:List Pc):Option AV:=onB (lenP gs) fun n=>ifB (Nat.ble n lim) (some (.pc gs)) none
noncomputable def pcL (l:List AV):Option (List Pc):=@List.rec AV (fun _=>Option (List Pc)) (some []) (fun a r ih=>onB (pcs a) fun x=>onB ih fun y=>some (apL x y)) l
noncomputable def D7k (v:AV):Option Nat:=onB (pcO v) fun gs=>onB (one? gs) fun g=>@Pc.rec (fun _=>Option Nat) (fun J=>none) (fun i=>some i) (fun J=>none) (fun J=>none) g
noncomputable def F0t (cx:Cx) (a b:AV) (H:St):Ro:=B0h (C6h a b) (fun gs=>rv (pcV gs) H) (B0h (B5a a) (fun x=>onB (B5a b) fun y=>ifB (Nat.ble (Nat.add (B5y x) (B5y y)) lim) (some (.str (apL x y),H)) none) (rv (iop cx .add a b) H))
noncomputable def F0s (cx:Cx) (a b:AV) (H:St):Ro:=onB (bits? cx a) fun p=>onB (bits? cx b) fun q=>ifB (Nat.ble (p + q) 1000000) (rv (iop cx .mul a b) H) none
noncomputable def bin (cx:Cx) (o:BOp) (a b:AV) (H:St):Ro:=@BOp0.rec Unit (fun _=>Cx → AV → AV → St → Ro) F0t (fun cx a b H=>rv (iop cx .sub a b) H) F0s (fun cx a b H=>ifB (nz b) (rv (iop cx .fdiv a b) H) none) (fun cx a b H=>ifB (nz b) (rv (iop cx .fmod a b) H) none) (fun cx a b H=>onB (bits? cx a) fun p=>onB (natO b) fun n=>ifB (Nat.ble (p * n) 1000000) (rv (iop cx .pow a b) H) none) o cx a b H
noncomputable def neg (cx:Cx):AV → Option AV
 | .int x=>some (.int (-x))
 | .sym t=>some (fact cx (.op .sub (.lit 0) t))
 | _=>Option.none
noncomputable def F0w (f:AV → AV → St → Option Bool) (H:St) (x:List AV):List AV → Option Bool:=@List.rec AV (fun _=>List AV → Option Bool) (fun J=>some true) (fun a x ih y=>@List.rec AV (fun _=>Option Bool) (some false) (fun b y J=>onB (f a b H) fun r=>ifB r (ih y) (some false)) y) x
noncomputable def eqs (f:AV → AV → St → Option Bool) (H:St) (x y:List AV):Option Bool:=ifB (Nat.beq x.length y.length) (F0w f H x y) (some false)
noncomputable def eqO (f:AV → AV → St → Option Bool) (H:St) (o p:AO):Option Bool:=B0h (B9q o) (fun x=>onB (B9q p) fun y=>eqs f H x y) (onB (C5i o) fun x=>onB (C5i p) fun y=>eqs f H x y)
noncomputable def eqT (cx:Cx) (x y:IE):Option Bool:=ifB (eqE x y) (some true) (onB (cx.facts (.op .eq x y)) fun c=>some (c == 1))
noncomputable def kO (v:AV):Option (Option Bool):=@AV.rec (fun _=>Option (Option Bool)) (some none) (fun b=>some (some b)) (fun J=>none) (fun J=>none) (fun J=>none) (fun J=>none) (fun J=>none) (fun J=>none) (fun J=>none) (fun J=>none) v
noncomputable def kEq (x y:Option Bool):Bool:=match x with
 | Option.none=>match y with | Option.none=>true | some J=>false
 | some a=>match y with | Option.none=>false | some b=>a == b
noncomputable def eqV (cx:Cx) (i j:Nat):Option Bool:=ifB (Nat.beq i j) (some true) (onB (cx.facts (.op .eq (.var i) (.var j))) fun c=>onB (cx.facts (.op .lt (.var i) (.lit 0))) fun p=>onB (cx.facts (.op .lt (.var j) (.lit 0))) fun q=>ifB (decide (c = 0)) (ifB (decide (p = 0)) (ifB (decide (q = 0)) (some false) none) none) none)
noncomputable def eqI (cx:Cx) (a b:AV):Option Bool:=B0h (D7k a) (fun i=>onB (D7k b) fun j=>eqV cx i j) (B0h (B5a a) (fun x=>onB (B5a b) fun y=>some (D6y x y)) (B0h (F1n a b) (fun p=>some (eqZ p.1 p.2)) (B0h (kO a) (fun p=>onB (kO b) fun q=>some (kEq p q)) (onB (tie a) fun x=>onB (tie b) fun y=>eqT cx x y))))
noncomputable def eqv (cx:Cx) (n:Nat):AV → AV → St → Option Bool:=@Nat.rec (fun _=>AV → AV → St → Option Bool) (fun a b J=>eqI cx a b) (fun n ih a b H=>B0h (B4q a) (fun i=>onB (B4q b) fun j=>eqO ih H (H.get i) (H.get j)) (eqI cx a b)) n
noncomputable def okL (f:AV → St → Bool) (H:St) (l:List AV):Bool:=@List.rec AV (fun _=>Bool) true (fun a r ih=>@Bool.rec (fun _=>Bool) false ih (f a H)) l
noncomputable def okI (a:AV):Bool:=B0h (D7k a) (fun Z=>true) (B0h (B5a a) (fun Z=>true) (B0h (kO a) (fun Z=>true) (tie a).isSome))
noncomputable def okO' (f:AV → St → Bool) (H:St) (o:AO):Bool:=B0h (B9q o) (fun l=>okL f H l) (B0h (C5i o) (fun l=>okL f H l) false)
noncomputable def okD (n:Nat):AV → St → Bool:=@Nat.rec (fun _=>AV → St → Bool) (fun a J=>okI a) (fun n ih a H=>B0h (B4q a) (fun i=>okO' ih H (H.get i)) (okI a)) n
noncomputable def eqq (cx:Cx) (n:Nat) (a b:AV) (H:St):Option Bool:=ifB (okD n a H) (ifB (okD n b H) (eqv cx n a b H) none) none
noncomputable def C0h (c:Nat):List Nat → Bool
 | []=>false
 | b :: y=>match Nat.beq c b with | true=>true | false=>C0h c y
noncomputable def ltB (x y:Int):Bool:=@Int.rec (fun _=>Bool) (fun m=>@Int.rec (fun _=>Bool) (fun n=>Nat.blt m n) (fun J=>false) y) (fun m=>@Int.rec (fun _=>Bool) (fun J=>true) (fun n=>Nat.blt n m) y) x
noncomputable def ltI (cx:Cx) (a b:AV):Option Bool:=B0h (F1n a b) (fun p=>some (ltB p.1 p.2)) (onB (tie a) fun x=>onB (tie b) fun y=>onB (cx.facts (.op .lt x y)) fun c=>some (c == 1))
noncomputable def inv? (a b:AV):Option Bool:=onB (B5a b) fun y=>onB (B5a a) fun x=>onB (one? x) fun c=>some (C0h c y)
noncomputable def F1q (cx:Cx) (o:COp) (a b:AV) (H:St):Option Bool:=@COp0.rec Unit (fun _=>Cx → AV → AV → St → Option Bool) (fun cx a b H=>eqq cx 6 a b H) (fun cx a b H=>rb (eqq cx 6 a b H)) (fun cx a b H=>ltI cx a b) (fun cx a b H=>inv? a b) (fun cx a b H=>onB (D1h a) fun x=>onB (D1h b) fun y=>some (!(x == y))) (fun cx a b H=>ltI cx b a) o cx a b H
noncomputable def truthy (v:AV) (_:St):Option Bool:=B0h (D1h v) (fun b=>some b) (onB (C1c v) fun i=>some (i != 0))
/- sequences -/
noncomputable def nth? {α:Type} (l:List α):Nat → Option α:=@List.rec α (fun _=>Nat → Option α) (fun J=>Option.none) (fun a J ih i=>@Nat.rec (fun _=>Option α) (some a) (fun k J=>ih k) i) l
noncomputable def idx (n:Nat) (i:Int):Option Nat:=@Int.rec (fun _=>Nat → Option Nat) (fun k n=>ifB (Nat.blt k n) (some k) none) (fun k n=>ifB (Nat.blt k n) (some (n - 1 - k)) none) i n
noncomputable def B1q (n:Nat) (d:Nat):Option Int → Nat
 | Option.none=>d
 | some (.ofNat k)=>match Nat.ble k n with | true=>k | false=>n
 | some (.negSucc k)=>n - 1 - k
noncomputable def sbd (lo hi st:Option Int) (n:Nat):Int × Int × Int :=
 let step:=st.getD 1
 let clip (v:Option Int) (dflt:Int):Int:=match v with
  | Option.none=>dflt
  | some i=>let i:=if i < 0 then i + n else i; if step > 0 then max 0 (min i n) else max (-1) (min i ((n:Int) - 1))
 (clip lo (if step > 0 then 0 else (n:Int) - 1),clip hi (if step > 0 then n else -1),step)
noncomputable def picks {α} (l:List α):List Nat → List α
 | []=>[]
 | i :: r=>match nth? l i with | some a=>a :: picks l r | Option.none=>picks l r
noncomputable def slice {α} (l:List α) (lo hi:Option Int):List α:=(l.drop (B1q l.length 0 lo)).take (B1q l.length l.length hi - B1q l.length 0 lo)
noncomputable def sliceS {α} (l:List α) (lo hi st:Option Int):List α:=match sbd lo hi st l.length with
 | (a,b,k)=>picks l (sliceRange a b k)
noncomputable def D2e:Option AV → Option (Option Int)
 | Option.none=>some Option.none
 | some .none=>some Option.none
 | some (.int i)=>some (some i)
 | _=>Option.none
noncomputable def lsO (v:AO):Option (List AV):=@AO.rec (fun _=>Option (List AV)) none (fun l=>some l) (fun J=>none) (fun J=>none) (fun J Y V=>none) (fun J Y=>none) (fun l=>some l) v
noncomputable def slcL (l:List AV) (lo hi st:Option Int) (H:St):Ro:=B0h st (fun k=>ifB (!decide (k = 0)) (some (.ref H.n,(H.new (.list (sliceS l lo hi (some k)))).2)) none) (some (.ref H.n,(H.new (.list (slice l lo hi))).2))
noncomputable def slcv (a:AV) (lo hi st:Option AV) (H:St):Ro:=onB (D2e lo) fun lo=>onB (D2e hi) fun hi=>onB (D2e st) fun st=>onB (B4q a) fun i=>onB (lsO (H.get i)) fun l=>slcL l lo hi st H
noncomputable def D8u (a i:AV) (H:St):Option AV:=B0h (B5a a) (fun s=>onB (C1c i) fun k=>onB (idx (B5y s) k) fun j=>onB (nth? s j) fun c=>some (.str [c])) (B0h (B9r a H) (fun p=>onB (C1c i) fun k=>onB (idx (B5y p.2) k) fun j=>nth? p.2 j) Option.none)
noncomputable def D2i {α:Type} (l:List α):Nat → α → List α:=@List.rec α (fun _=>Nat → α → List α) (fun J Y=>[]) (fun a r ih i v=>@Nat.rec (fun _=>List α) (v :: r) (fun k J=>a :: ih k v) i) l
noncomputable def D3z (l:List AV):Option (List (List Nat)):=@List.rec AV (fun _=>Option (List (List Nat))) (some []) (fun a r ih=>onB (B5a a) fun s=>onB ih fun l=>some (s :: l)) l
noncomputable def B2k (d:List Nat):List (List Nat) → List Nat
 | []=>[]
 | [s]=>s
 | s :: r=>s ++ (d ++ B2k d r)
noncomputable def len? (a:AV) (H:St):Option AV:=onB (B9r a H) fun p=>some (.int (.ofNat (B5y p.2)))
noncomputable def D6p (cx:Cx) (b:BI) (as:List AV) (H:St):Ro:=onB (one? as) fun a=>@BI0.rec Unit (fun _=>Ro) (rv (len? a H) H) (onB (B9r a H) fun p=>rv (isum cx (.int 0) p.2) H) (ifB (tie a).isSome (some (a,H)) none) none none (onB (B5a a) fun s=>ifB (Nat.ble s.length 900) (some (.ref H.n,(H.new (.list (s.map fun c=>.str [c]))).2)) none) b
noncomputable def C3t (c:Nat):List Nat → Nat
 | []=>0
 | a :: r=>match Nat.beq a c with | true=>C3t c r + 1 | false=>C3t c r
noncomputable def idxL (cx:Cx) (v:AV) (H:St) (l:List AV):Option Nat:=@List.rec AV (fun _=>Option Nat) none (fun x r ih=>onB (eqv cx 4 x v H) fun q=>ifB q (some 0) (onB ih fun k=>some (k + 1))) l
noncomputable def C6e (v:AV) (H:St) (l:List AV):Bool:=okD 4 v H && okL (okD 4) H l
noncomputable def natI (o:Option Nat) (H:St):Ro:=onB o fun k=>some (.int k,H)
noncomputable def B9u (c:Nat):Bool:=C0h c [10,9,13,32]
noncomputable def B4d (e:Nat → Bool) (l:List Nat):Bool → List Nat → List Nat × List Nat:=@List.rec Nat (fun _=>Bool → List Nat → List Nat × List Nat) (fun J t=>(t.reverse,[])) (fun c r ih b t=>match b with
  | true=>ih false (c :: t)
  | false=>match e c with
   | true=>(t.reverse,r)
   | false=>match Nat.beq c 92 with
    | true=>ih true t
    | false=>ih false (c :: t)) l
noncomputable def isQ (c:Nat):Bool:=Nat.beq c 34
noncomputable def tok (l:List Nat):List Nat × List Nat:=@List.rec Nat (fun _=>List Nat × List Nat) ([],[]) (fun c r ih=>match B9u c with
  | true=>ih
  | false=>match Nat.beq c 34 with
   | true=>B4d isQ r false []
   | false=>match Nat.beq c 92 with
    | true=>B4d B9u r true []
    | false=>B4d B9u r false [c]) l
noncomputable def D5c (o:AV) (as:List AV) (H:St):Ro:=onB (one? as) fun v=>onB (B9r o H) fun p=>ifB (Nat.ble (B5y p.2) lim) (some (.none,H.set p.1 (.list (apL p.2 [v])))) none
noncomputable def C6x (s:List Nat) (as:List AV) (H:St):Ro:=onB (one? as) fun v=>onB (B5a v) fun x=>onB (one? x) fun c=>some (.int (C3t c s),H)
noncomputable def D8q (o:AV) (as:List AV) (H:St):Ro:=B0h (B5a o) (fun s=>C6x s as H) none
noncomputable def D8p (cx:Cx) (o:AV) (as:List AV) (H:St):Ro:=onB (one? as) fun v=>onB (B9r o H) fun p=>ifB (C6e v H p.2) (natI (idxL cx v H p.2) H) none
noncomputable def mJoin (o:AV) (as:List AV) (H:St):Ro:=onB (B5a o) fun d=>onB (one? as) fun v=>onB (B9r v H) fun p=>B0h (D3z p.2) (fun x=>ifB (Nat.ble (B2k d x).length lim) (some (.str (B2k d x),H)) none) (onB (pcL p.2) fun gs=>ifB d.isEmpty (rv (pcV gs) H) none)
noncomputable def pushA (o:AO) (i:Nat) (v:AV) (H:St):Ro:=@AO.rec (fun _=>Nat → AV → St → Ro) (fun J Y V=>none) (fun O J Y V=>none) (fun O J Y V=>none) (fun O J Y V=>none) (fun y k pb i v H=>ifB (Nat.ble (B5y pb) 900) (some (.none,H.set i (.lex y k (apL pb [v])))) none) (fun O Z J Y V=>none) (fun O J Y V=>none) o i v H
noncomputable def mPush (o:AV) (as:List AV) (H:St):Ro:=onB (one? as) fun v=>onB (B4q o) fun i=>pushA (H.get i) i v H
noncomputable def tokA (o:AO) (i:Nat) (H:St):Ro:=@AO.rec (fun _=>Nat → St → Ro) (fun J Y=>none) (fun O J Y=>none) (fun O J Y=>none) (fun O J Y=>none) (fun y k pb i H=>@List.rec AV (fun _=>Ro) (some (.str (tok (y.drop k)).1,H.set i (.lex y (y.length - (tok (y.drop k)).2.length) []))) (fun v pb J=>some (v,H.set i (.lex y k pb))) pb) (fun O Z J Y=>none) (fun O J Y=>none) o i H
noncomputable def mTok (o:AV) (as:List AV) (H:St):Ro:=ifB as.isEmpty (onB (B4q o) fun i=>tokA (H.get i) i H) none
noncomputable def two! {α:Type} (l:List α):Option (α × α):=@List.rec α (fun _=>Option (α × α)) none (fun a r J=>onB (one? r) fun b=>some (a,b)) l
noncomputable def mcall (cx:Cx) (o:AV) (m:Mt) (as:List AV) (H:St):Ro:=@Mt0.rec Unit (fun _=>Cx → AV → List AV → St → Ro) (fun J=>D5c) (fun J=>D8q) (fun J=>mJoin) (fun J=>mPush) (fun J=>mTok) D8p m cx o as H
noncomputable def mtOk (m:Mt) (o:AV) (H:St):Bool:=match o with
 | .str J=>match m with | .count=>true | .join=>true | _=>false
 | .ref i=>match H.get i with
  | .list J=>match m with | .append=>true | .index=>true | _=>false
  | .lex J Y V=>match m with | .push=>true | .tok=>true | _=>false
  | _=>false
 | _=>false
noncomputable def lineNo (y:List Nat) (k:Nat):Int:=1 + (C3t 10 (y.take k):Nat)
/- names -/
noncomputable def getF (l:List (Option AV)):Nat → Option AV:=@List.rec (Option AV) (fun _=>Nat → Option AV) (fun J=>none) (fun a J ih i=>@Nat.rec (fun _=>Option AV) a (fun k J=>ih k) i) l
noncomputable def B4t (f:Fm) (i:Nat):Option AV:=getF f.loc i
noncomputable def celW (v:AO):Option AV:=@AO.rec (fun _=>Option AV) none (fun J=>none) (fun J=>none) (fun v=>v) (fun J Y V=>none) (fun J Y=>none) (fun J=>none) v
noncomputable def getC (f:Fm) (i:Nat) (H:St):Option AV:=onB (nth? f.cel i) fun id=>celW (H.get id)
noncomputable def celV (v:AO):Option (Option AV):=@AO.rec (fun _=>Option (Option AV)) none (fun J=>none) (fun J=>none) (fun l=>some l) (fun J Y V=>none) (fun J Y=>none) (fun J=>none) v
noncomputable def lsetF (l:List (Option AV)):Nat → Option AV → List (Option AV):=@List.rec (Option AV) (fun _=>Nat → Option AV → List (Option AV)) (fun J Y=>[]) (fun a r ih i v=>@Nat.rec (fun _=>List (Option AV)) (v :: r) (fun k J=>a :: ih k v) i) l
noncomputable def C0o (x:Sl) (v:AV) (f:Fm) (H:St):Option (Fm × St):=@Sl.rec (fun _=>AV → Fm → St → Option (Fm × St)) (fun i v f H=>some (⟨lsetF f.loc i (some v),f.cel,f.dep⟩,H)) (fun i v f H=>onB (nth? f.cel i) fun id=>onB (celV (H.get id)) fun J=>some (f,H.set id (.cell (some v)))) x v f H
/- iterators -/
inductive It | lst (i:Nat) | tup (i:Nat) | str (s:List Nat) | rng (a:Int) (n:Nat)
noncomputable def It.ctorIdx (x:It):Nat:=@It.casesOn (fun _=>Nat) x (fun _=>0) (fun _=>1) (fun _=>2) (fun _ _=>3)
noncomputable def itE {α:Type} (f:α → AV) (l:List α) (k:Nat):Option (Option AV):=B0h (nth? l k) (fun v=>some (some (f v))) (ifB (Nat.beq k (B5y l)) (some none) none)
noncomputable def D7a (it:It) (k:Nat) (H:St):Option (Option AV):=@It.rec (fun _=>Nat → St → Option (Option AV)) (fun i k H=>onB (B9q (H.get i)) fun l=>itE (fun v=>v) l k) (fun i k H=>onB (C5i (H.get i)) fun l=>itE (fun v=>v) l k) (fun s k H=>itE (fun c=>.str [c]) s k) (fun a n k H=>ifB (Nat.blt k n) (some (some (.int (a + k)))) (ifB (Nat.beq k n) (some none) none)) it k H
noncomputable def D8v (a:AV) (H:St):Option It:=match a with
 | .str s=>some (.str s)
 | .ref i=>match H.get i with
  | .list J=>some (.lst i)
  | .tup J=>some (.tup i)
  | _=>Option.none
 | _=>Option.none
noncomputable def D7z (a b:Int):It:=.rng a (b - a).toNat
noncomputable def F1g (r:Rn) (e:E) (f:Fm) (H:St):Option (It × St):=on2 (r.ev e f H) fun v H=>onB (D8v v H) fun it=>some (it,H)
noncomputable def drw:It → Bool
 | .rng J Y=>false
 | _=>true
noncomputable def srcD (r:Rn) (e:E) (f:Fm) (H:St):Option (It × St):=on2 (F1g r e f H) fun it H=>ifB (drw it) (some (it,H)) none
noncomputable def C4j (r:Rn) (k:Nat) (e:E) (f:Fm) (H:St):Option (It × St):=@Nat.rec (fun _=>Option (It × St)) (F1g r e f H) (fun k J=>@Nat.rec (fun _=>Option (It × St)) (srcD r e f H) (fun k J=>@Nat.rec (fun _=>Option (It × St)) (on2 (r.ev e f H) fun v H=>onB (C1c v) fun b=>ifB (Nat.ble b.natAbs lim) (some (D7z 0 b,H)) none) (fun J Y=>none) k) k) k
noncomputable def putT (t:Tg) (k:Nat) (i:Nat) (v:AV) (f:Fm) (H:St):Option (Fm × St):=@Tg.rec (fun _=>Nat → Nat → AV → Fm → St → Option (Fm × St)) (fun x k i v f H=>ifB (Nat.beq k 1) none (C0o x v f H)) (fun x y k i v f H=>ifB (Nat.beq k 1) (on2 (C0o x (.int i) f H) (C0o y v)) (onB (B4q v) fun n=>onB (C5i (H.get n)) fun l=>onB (two! l) fun q=>on2 (C0o x q.1 f H) (C0o y q.2))) t k i v f H
noncomputable def evs (r:Rn) (f:Fm) (es:List E):St → Option (List AV × St):=@List.rec E (fun _=>St → Option (List AV × St)) (fun H=>some ([],H)) (fun e J ih H=>on2 (r.ev e f H) fun v H=>on2 (ih H) fun vs H=>some (v :: vs,H)) es
noncomputable def evo (r:Rn) (f:Fm) (e:Option E) (H:St):Option (Option AV × St):=@Option.rec E (fun _=>Option (Option AV × St)) (some (none,H)) (fun e=>on2 (r.ev e f H) fun v H=>some (some v,H)) e
noncomputable def F1y (r:Rn) (f:Fm) (l:List E):St → Option (Bool × St):=@List.rec E (fun _=>St → Option (Bool × St)) (fun H=>some (true,H)) (fun e J ih H=>tsB (r.ts e f H) ih fun H=>some (false,H)) l
noncomputable def anyT (r:Rn) (f:Fm) (l:List E):St → Option (Bool × St):=@List.rec E (fun _=>St → Option (Bool × St)) (fun H=>some (false,H)) (fun e J ih H=>tsB (r.ts e f H) (fun H=>some (true,H)) ih) l
noncomputable def cpT (r:Rn) (elt:E) (t:Tg) (k:Nat) (ifs:List E) (acc:Nat) (it:It) (n:Nat):Nat → Fm → St → Option St:=@Nat.rec (fun _=>Nat → Fm → St → Option St) (fun J Y V=>none) (fun J ih i f H=>onB (D7a it i H) fun o=>B0h o (fun v=>on2 (putT t k i v f H) fun f H=>on2 (F1y r f ifs H) fun b H=>ifB b (on2 (r.ev elt f H) fun w H=>onB (B9q (H.get acc)) fun l=>ifB (Nat.ble (B5y l) lim) (ih (.succ i) f (H.set acc (.list (apL l [w])))) none) (ih (.succ i) f H)) (some H)) n
noncomputable def C4y (f:Fm) (l:List (Option Nat)):St → Option (List Nat × St):=@List.rec (Option Nat) (fun _=>St → Option (List Nat × St)) (fun H=>some ([],H)) (fun o r ih H=>@Option.rec Nat (fun _=>Option (List Nat × St)) (on2 (ih (H.new (.cell none)).2) fun l H'=>some (H.n :: l,H')) (fun j=>onB (nth? f.cel j) fun id=>on2 (ih H) fun l H=>some (id :: l,H)) o) l
noncomputable def D5k (it:It) (H:St):Nat:=@It.rec (fun _=>St → Nat) (fun i H=>B0h (B9q (H.get i)) B5y 0) (fun i H=>B0h (C5i (H.get i)) B5y 0) (fun s H=>B5y s) (fun J n H=>n) it H
noncomputable def chn (cx:Cx) (r:Rn) (f:Fm) (a:AV) (l:List (COp × E)):St → Option (Bool × St):=@List.rec (COp × E) (fun _=>AV → St → Option (Bool × St)) (fun J H=>some (true,H)) (fun p es ih a H=>on2 (r.ev p.2 f H) fun b H=>onB (F1q cx p.1 a b H) fun q=>ifB q (ih b H) (some (false,H))) l a
noncomputable def escV (v:AV):Option AV:=onB (D7k v) fun i=>some (.pc [.esc i])
noncomputable def iteE (r:Rn) (c a b:E) (f:Fm) (H:St):Option (AV × St):=tsB (r.ts c f H) (r.ev a f) (r.ev b f)
noncomputable def evBin (cx:Cx) (r:Rn) (f:Fm) (H:St) (o:BOp) (a:E) (b:E):Option (AV × St):=on2 (r.ev a f H) fun x H=>on2 (r.ev b f H) fun y H=>bin cx o x y H
noncomputable def evNeg (cx:Cx) (r:Rn) (f:Fm) (H:St) (a:E):Option (AV × St):=on2 (r.ev a f H) fun x H=>rv (neg cx x) H
noncomputable def evEsc (cx:Cx) (r:Rn) (f:Fm) (H:St) (i:Nat) (c:E) (a:E) (b:E):Option (AV × St):=B0h (B4t f i) (fun v=>B0h (pcO v) (fun J=>rv (escV v) H) (iteE r c a b f H)) Option.none
noncomputable def evCmp (cx:Cx) (r:Rn) (f:Fm) (H:St) (o:COp) (a:E) (b:E):Option (AV × St):=on2 (r.ev a f H) fun x H=>on2 (r.ev b f H) fun y H=>rbv (F1q cx o x y H) H
noncomputable def evTup (cx:Cx) (r:Rn) (f:Fm) (H:St) (as:List E):Option (AV × St):=on2 (evs r f as H) fun vs H=>ifB (Nat.ble (B5y vs) 1000) (some (.ref H.n,(H.new (.tup vs)).2)) none
noncomputable def evLst (cx:Cx) (r:Rn) (f:Fm) (H:St) (as:List E):Option (AV × St):=on2 (evs r f as H) fun vs H=>ifB (Nat.ble (B5y vs) 1000) (some (.ref H.n,(H.new (.list vs)).2)) none
noncomputable def evSub (cx:Cx) (r:Rn) (f:Fm) (H:St) (a:E) (i:E):Option (AV × St):=on2 (r.ev a f H) fun x H=>on2 (r.ev i f H) fun y H=>rv (D8u x y H) H
noncomputable def evSlc (cx:Cx) (r:Rn) (f:Fm) (H:St) (a:E) (lo:Option E) (hi:Option E) (st:Option E):Option (AV × St):=on2 (r.ev a f H) fun x H=>on2 (evo r f lo H) fun lo H=>on2 (evo r f hi H) fun hi H=>on2 (evo r f st H) fun st H=>slcv x lo hi st H
noncomputable def D9x (cx:Cx) (r:Rn) (f:Fm) (H:St) (g:AV) (as:List E):Option (AV × St):=on2 (evs r f as H) fun vs H=>@AV.rec (fun _=>Cx → Rn → Nat → List AV → St → Ro) (fun J Y V O Z=>none) (fun U J Y V O Z=>none) (fun U J Y V O Z=>none) (fun U J Y V O Z=>none) (fun U J Y V O Z=>none) (fun U J Y V O Z=>none) (fun a cx r d vs H=>r.ca d (.glob a) vs H) (fun b cx r d vs H=>D6p cx b vs H) (fun U J Y V O Z=>none) (fun U J Y V O Z=>none) g cx r f.dep vs H
noncomputable def D9v (cx:Cx) (r:Rn) (f:Fm) (H:St) (o:E) (m:Mt) (as:List E):Option (AV × St):=on2 (r.ev o f H) fun x H=>ifB (mtOk m x H) (on2 (evs r f as H) fun vs H=>mcall cx x m vs H) none
noncomputable def D9w (cx:Cx) (r:Rn) (f:Fm) (H:St) (o:E):Option (AV × St):=match r.ev o f H with
  | some (.ref i,H)=>match H.get i with | .lex (c :: y) k J=>some (.int (lineNo (c :: y) k),H) | _=>Option.none
  | _=>Option.none
noncomputable def D2r (cx:Cx) (r:Rn) (f:Fm) (H:St) (elt:E) (t:Tg) (k:Nat) (it:E) (ifs:List E) (nl:Nat) (cl:List (Option Nat)):Option (AV × St):=on2 (C4j r k it f H) fun I H=>on2 (C4y f cl (H.new (.list [])).2) fun cs H'=>onB (cpT r elt t k ifs H.n I (D5k I H + 1) 0 ⟨List.replicate nl none,cs,f.dep⟩ H') fun H''=>some (.ref H.n,H'')
noncomputable def evC (cx:Cx) (r:Rn) (e:E) (f:Fm) (H:St):Option (AV × St):=@E.rec (fun _=>Cx → Rn → Fm → St → Option (AV × St)) (fun _=>Unit) (fun _=>Unit) (fun _=>Unit) (fun _=>Unit) (fun v cx r f H=>some (v,H)) (fun i cx r f H=>rv (B4t f i) H) (fun i cx r f H=>rv (getC f i H) H) (fun o a b J Y cx r f H=>evBin cx r f H o a b) (fun a J cx r f H=>evNeg cx r f H a) (fun o a b J Y cx r f H=>evCmp cx r f H o a b) (fun a o b l J Y V cx r f H=>none) (fun i c a b J Y V cx r f H=>evEsc cx r f H i c a b) (fun l J cx r f H=>none) (fun l J cx r f H=>none) (fun l J cx r f H=>evTup cx r f H l) (fun l J cx r f H=>evLst cx r f H l) (fun a i J Y cx r f H=>evSub cx r f H a i) (fun a lo hi st J Y V O cx r f H=>evSlc cx r f H a lo hi st) (fun g l J cx r f H=>D9x cx r f H g l) (fun o m l J Y cx r f H=>D9v cx r f H o m l) (fun o J cx r f H=>D9w cx r f H o) (fun e t k it ifs nl cl J Y V cx r f H=>D2r cx r f H e t k it ifs nl cl) () (fun J Y V O=>()) () (fun J Y V O=>()) () (fun J Y=>()) (fun J Y V=>()) e cx r f H
noncomputable def tsV (r:Rn) (e:E) (f:Fm) (H:St):Option (Bool × St):=on2 (r.ev e f H) fun v H=>rbb (truthy v H) H
noncomputable def tsCmp (cx:Cx) (r:Rn) (f:Fm) (H:St) (o:COp) (a:E) (b:E):Option (Bool × St):=on2 (r.ev a f H) fun x H=>on2 (r.ev b f H) fun y H=>rbb (F1q cx o x y H) H
noncomputable def tsChn (cx:Cx) (r:Rn) (f:Fm) (H:St) (a:E) (o:COp) (b:E) (l:List (COp × E)):Option (Bool × St):=on2 (r.ev a f H) fun x H=>chn cx r f x ((o,b) :: l) H
noncomputable def tsD (e:E) (cx:Cx) (r:Rn) (f:Fm) (H:St):Option (Bool × St):=tsV r e f H
noncomputable def tsC (cx:Cx) (r:Rn) (e:E) (f:Fm) (H:St):Option (Bool × St):=@E.rec (fun _=>E → Cx → Rn → Fm → St → Option (Bool × St)) (fun _=>Unit) (fun _=>Unit) (fun _=>Unit) (fun _=>Unit) (fun J=>tsD) (fun J=>tsD) (fun J=>tsD) (fun J Y V O Z=>tsD) (fun J Y=>tsD) (fun o a b J Y e cx r f H=>tsCmp cx r f H o a b) (fun a o b l J Y V e cx r f H=>tsChn cx r f H a o b l) (fun i c a b J Y V e cx r f H=>none) (fun l J e cx r f H=>F1y r f l H) (fun l J e cx r f H=>anyT r f l H) (fun J Y=>tsD) (fun J Y=>tsD) (fun J Y V O=>tsD) (fun J Y V O Z Z1 Z2 Z3=>tsD) (fun J Y V=>tsD) (fun J Y V O Z=>tsD) (fun J Y=>tsD) (fun J Y V O Z Z1 Z2 Z3 Z4 Z5=>tsD) () (fun J Y V O=>()) () (fun J Y V O=>()) () (fun J Y=>()) (fun J Y V=>()) e e cx r f H
noncomputable def unpS (vs:List AV) (l:List (Nat × Sl)):Fm → St → Option (Fm × St):=@List.rec (Nat × Sl) (fun _=>Fm → St → Option (Fm × St)) (fun f H=>some (f,H)) (fun p J ih f H=>onB (nth? vs p.1) fun v=>on2 (C0o p.2 v f H) ih) l
noncomputable def frB (x:Option (Flo × Fm × St)) (k:Fm → St → Option (Flo × Fm × St)):Option (Flo × Fm × St):=@Option.rec (Flo × Fm × St) (fun _=>Option (Flo × Fm × St)) none (@Prod.rec Flo (Fm × St) (fun _=>Option (Flo × Fm × St)) fun fl p=>@Prod.rec Fm St (fun _=>Option (Flo × Fm × St)) (fun f H=>@Flo.rec (fun _=>Option (Flo × Fm × St)) (k f H) (fun v=>some (.ret v,f,H)) fl) p) x
noncomputable def frT (r:Rn) (t:Tg) (k:Nat) (body:List S) (it:It) (n:Nat):Nat → Fm → St → Option (Flo × Fm × St):=@Nat.rec (fun _=>Nat → Fm → St → Option (Flo × Fm × St)) (fun J Y V=>none) (fun J ih i f H=>onB (D7a it i H) fun o=>B0h o (fun v=>on2 (putT t k i v f H) fun f H=>frB (r.ex body f H) (ih (.succ i))) (some (.nxt,f,H))) n
noncomputable def ibin (cx:Cx) (o:BOp) (x y:AV):Option AV:=@BOp0.rec Unit (fun _=>Cx → AV → AV → Option AV) (fun cx x y=>B0h (C6h x y) pcV (B0h (B5a x) (fun a=>onB (B5a y) fun b=>ifB (Nat.ble (Nat.add (B5y a) (B5y b)) lim) (some (.str (apL a b))) none) (iop cx .add x y))) (fun cx x y=>iop cx .sub x y) (fun cx x y=>onB (bits? cx x) fun p=>onB (bits? cx y) fun q=>ifB (Nat.ble (p + q) 1000000) (iop cx .mul x y) none) (fun J Y V=>none) (fun J Y V=>none) (fun J Y V=>none) o cx x y
noncomputable def slV (x:Sl) (f:Fm) (H:St):Option AV:=@Sl.rec (fun _=>Fm → St → Option AV) (fun i f H=>B4t f i) (fun i f H=>getC f i H) x f H
noncomputable def itL (o i:AV) (H:St):Option (Nat × List AV × Nat × AV):=onB (B9r o H) fun p=>onB (natO i) fun k=>ifB (Nat.ble (B5y p.2) 900) (onB (nth? p.2 k) fun x=>some (p.1,p.2,k,x)) none
noncomputable def D9s (cx:Cx) (r:Rn) (f:Fm) (H:St) (e:E):Option (Flo × Fm × St):=on2 (r.ev e f H) fun v H=>onB (nonO v) fun J=>some (.nxt,f,H)
noncomputable def exAsg (cx:Cx) (r:Rn) (f:Fm) (H:St) (t:Sl) (e:E):Option (Flo × Fm × St):=on2 (r.ev e f H) fun v H=>on2 (C0o t v f H) fun f H=>some (.nxt,f,H)
noncomputable def exUnp (cx:Cx) (r:Rn) (f:Fm) (H:St) (ts:List (Nat × Sl)) (e:E):Option (Flo × Fm × St):=on2 (r.ev e f H) fun v H=>onB (B4q v) fun n=>onB (C5i (H.get n)) fun vs=>ifB (Nat.beq (B5y vs) (B5y ts)) (on2 (unpS vs ts f H) fun f H=>some (.nxt,f,H)) none
noncomputable def exAug (cx:Cx) (r:Rn) (f:Fm) (H:St) (t:Sl) (o:BOp) (e:E):Option (Flo × Fm × St):=onB (slV t f H) fun x=>on2 (r.ev e f H) fun y H=>onB (ibin cx o x y) fun v=>on2 (C0o t v f H) fun f H=>some (.nxt,f,H)
noncomputable def exIff (cx:Cx) (r:Rn) (f:Fm) (H:St) (c:E) (a:List S) (b:List S):Option (Flo × Fm × St):=tsB (r.ts c f H) (r.ex a f) (r.ex b f)
noncomputable def exFr (cx:Cx) (r:Rn) (f:Fm) (H:St) (t:Tg) (k:Nat) (it:E) (b:List S):Option (Flo × Fm × St):=on2 (C4j r k it f H) fun I H=>frT r t k b I (D5k I H + 1) 0 f H
noncomputable def exRet (cx:Cx) (r:Rn) (f:Fm) (H:St) (e:E):Option (Flo × Fm × St):=on2 (r.ev e f H) fun v H=>some (.ret v,f,H)
noncomputable def D9t (cx:Cx) (r:Rn) (f:Fm) (H:St) (o:Nat) (i:Nat) (b:BOp) (e:E):Option (Flo × Fm × St):=onB (B4t f o) fun x=>onB (B4t f i) fun k=>onB (itL x k H) fun p=>on2 (r.ev e f H) fun y H=>onB (ibin cx b p.2.2.2 y) fun v=>onB (itL x k H) fun q=>some (.nxt,f,H.set q.1 (.list (D2i q.2.1 q.2.2.1 v)))
noncomputable def exS (cx:Cx) (r:Rn) (st:S) (f:Fm) (H:St):Option (Flo × Fm × St):=@S.rec (fun _=>Cx → Rn → Fm → St → Option (Flo × Fm × St)) (fun _=>Unit) (fun e cx r f H=>D9s cx r f H e) (fun t e cx r f H=>exAsg cx r f H t e) (fun ts e cx r f H=>exUnp cx r f H ts e) (fun t o e cx r f H=>exAug cx r f H t o e) (fun c a b J Y cx r f H=>exIff cx r f H c a b) (fun t k it b J cx r f H=>exFr cx r f H t k it b) (fun e cx r f H=>exRet cx r f H e) (fun o i b e cx r f H=>D9t cx r f H o i b e) () (fun J Y V O=>()) st cx r f H
noncomputable def exC (cx:Cx) (r:Rn) (ss:List S):Fm → St → Option (Flo × Fm × St):=@List.rec S (fun _=>Fm → St → Option (Flo × Fm × St)) (fun f H=>some (.nxt,f,H)) (fun s J ih f H=>frB (exS cx r s f H) ih) ss
noncomputable def lookN {α:Type} (l:List (Nat × α)):Nat → Option α:=@List.rec (Nat × α) (fun _=>Nat → Option α) (fun J=>none) (fun p r ih a=>ifB (Nat.beq p.1 a) (some p.2) (ih a)) l
noncomputable def C0u:Nat → St → List Nat × St
 | 0,H=>([],H)
 | n + 1,H=>match C0u n (H.new (.cell Option.none)).2 with | (l,H')=>(H.n :: l,H')
noncomputable def binds (xs:List Sl):List AV → Fm → St → Option (Fm × St):=@List.rec Sl (fun _=>List AV → Fm → St → Option (Fm × St)) (fun vs f H=>@List.rec AV (fun _=>Option (Fm × St)) (some (f,H)) (fun J Y V=>none) vs) (fun x xs ih vs f H=>@List.rec AV (fun _=>Option (Fm × St)) none (fun v vs J=>on2 (C0o x v f H) (ih vs)) vs) xs
noncomputable def gloO (v:AV):Option Nat:=@AV.rec (fun _=>Option Nat) none (fun J=>none) (fun J=>none) (fun J=>none) (fun J=>none) (fun J=>none) (fun a=>some a) (fun J=>none) (fun J=>none) (fun J=>none) v
noncomputable def retV (x:Option (Flo × Fm × St)):Option (AV × St):=@Option.rec (Flo × Fm × St) (fun _=>Option (AV × St)) none (@Prod.rec Flo (Fm × St) (fun _=>Option (AV × St)) fun fl p=>@Flo.rec (fun _=>St → Option (AV × St)) (fun H=>some (.none,H)) (fun v H=>some (v,H)) fl p.2) x
noncomputable def callF (r:Rn) (d:Nat) (fc:FnC) (vs:List AV) (H:St):Option (AV × St):=on2 (binds fc.par vs ⟨List.replicate fc.nl none,(C0u fc.nc H).1,d⟩ (C0u fc.nc H).2) fun f H=>retV (r.ex fc.body f H)
noncomputable def caC (cx:Cx) (r:Rn) (d:Nat) (g:AV) (vs:List AV) (H:St):Option (AV × St):=onB (gloO g) fun a=>B0h (lookN cx.pr a) (fun q=>ifB (Nat.ble q.1 d) (q.2 vs H) none) (@Nat.rec (fun _=>Option (AV × St)) none (fun d J=>onB (lookN cx.ft a) fun fc=>callF r d fc vs H) d)
noncomputable def run (cx:Cx) (n:Nat):Rn:=@Nat.rec (fun _=>Rn) ⟨fun Z Z Z=>Option.none,fun Z Z Z=>Option.none,fun Z Z Z=>Option.none,fun Z Z Z Z=>Option.none⟩ (fun J r=>⟨evC cx r,tsC cx r,exC cx r,caC cx r⟩) n
theorem noP {α:Type} {b:α} {P:Prop} (h:Option.none = some b):P:=nomatch h
theorem fT {P:Prop} (h:false = true):P:=absurd h Bool.false_ne_true
theorem B0m {α:Type} {a b:α} {P:Prop} (h:some a = some b) (q:b = a → P):P:=q (oYY h).symm
theorem B0r {α β:Type} {a c:α} {b d:β} {P:Prop} (h:some (a,b) = some (c,d)) (q:c = a → d = b → P):P:=q (Prod.mk.inj (oYY h)).1.symm (Prod.mk.inj (oYY h)).2.symm
theorem B2n {β γ:Type} {x:Option (β × St)} {k:β → St → Option γ} {y:γ} {P:Prop} (h:@Option.rec (β × St) (fun _=>Option γ) Option.none (@Prod.rec β St (fun _=>Option γ) k) x = some y) (q:∀ a b,x = some (a,b) → k a b = some y → P):P:=by
 cases x with
 | none=>exact noP h
 | some p=>exact q p.1 p.2 rfl h
theorem tsP {γ:Type} {x:Option (Bool × St)} {k1 k0:St → Option γ} {y:γ} {P:Prop} (h:@Option.rec (Bool × St) (fun _=>Option γ) Option.none (@Prod.rec Bool St (fun _=>Option γ) fun b H=>@Bool.rec (fun _=>Option γ) (k0 H) (k1 H) b) x = some y) (q1:∀ H,x = some (true,H) → k1 H = some y → P) (q0:∀ H,x = some (false,H) → k0 H = some y → P):P:=by
 cases x with
 | none=>exact noP h
 | some p =>
  obtain ⟨b,H⟩:=p
  cases b with
  | true=>exact q1 H rfl h
  | false=>exact q0 H rfl h
theorem prB {γ:Type} {x:Bool} {k:Option γ} {y:γ} {P:Prop} (h:@Bool.rec (fun _=>Option γ) Option.none k x = some y) (q:x = true → k = some y → P):P:=by
 cases x with
 | false=>exact noP h
 | true=>exact q rfl h
theorem onP {α β:Type} {x:Option α} {k:α → Option β} {y:β} {P:Prop} (h:@Option.rec α (fun _=>Option β) Option.none k x = some y) (q:∀ a,x = some a → k a = some y → P):P:=by
 cases x with
 | none=>exact noP h
 | some a=>exact q a rfl h
theorem B0a {α β:Type} {x:Option α} {k:α → Option β} {y:β} {P:Prop} (h:(x >>= k) = some y) (q:∀ a,x = some a → k a = some y → P):P:=by
 cases x with
 | none=>exact noP h
 | some a=>exact q a rfl h
theorem gdP {β:Type} {b:Bool} {k:Unit → Option β} {y:β} {P:Prop} (h:(gd b >>= k) = some y) (q:b = true → k () = some y → P):P:=by
 cases b with
 | false=>exact noP h
 | true=>exact q rfl h
theorem B0c {α:Type} {l:List α} {a:α} (h:one? l = some a):l = [a]:=by
 rcases l with _ | ⟨b,_ | ⟨c,l⟩⟩ <;> first | exact noP h | exact oYY h ▸ rfl
theorem B0n {v:AV} {a:Nat} (h:B4q v = some a):v = .ref a:=by cases v <;> first | exact congrArg AV.ref (oYY h) | exact noP h
theorem B0e {v:AV} {a:List Nat} (h:B5a v = some a):v = .str a:=by cases v <;> first | exact congrArg AV.str (oYY h) | exact noP h
theorem B0w {v:AO} {a:List AV} (h:B9q v = some a):v = .list a:=by cases v <;> first | exact congrArg AO.list (oYY h) | exact noP h
theorem B0k {o:AV} {H:St} {p:Nat × List AV} (h:B9r o H = some p):o = .ref p.1 ∧ H.get p.1 = .list p.2 :=
 onP h fun i hi h=>onP h fun l hl h=>by cases oYY h; exact ⟨B0n hi,B0w hl⟩
theorem B0u {v:AV} {a:Int} (h:C1c v = some a):v = .int a:=by cases v <;> first | exact congrArg AV.int (oYY h) | exact noP h
theorem B4m {v:AV} {a:Bool} (h:D1h v = some a):v = .bool a:=by cases v <;> first | exact congrArg AV.bool (oYY h) | exact noP h
theorem B1z {v:AO} {a:List AV} (h:C5i v = some a):v = .tup a:=by cases v <;> first | exact congrArg AO.tup (oYY h) | exact noP h
theorem B9n {v:AV} {n:Nat} (h:natO v = some n):v = .int (.ofNat n):=by
 cases v with
 | int i=>cases i with
  | ofNat k=>exact oYY h ▸ rfl
  | negSucc=>exact noP h
 | _=>exact noP h
theorem B6a {a b:AV} {p:Int × Int} (h:F1n a b = some p):a = .int p.1 ∧ b = .int p.2:=onP h fun Z h1 h=>onP h fun Z h2 h=>oYY h ▸ ⟨B0u h1,B0u h2⟩
theorem B1i {α δ:Type} {x:Option α} {f:α → Option δ} {g:Option δ} {y:δ} {P:Prop} (h:B0h x f g = some y) (q1:∀ a,x = some a → f a = some y → P) (q2:x = Option.none → g = some y → P):P:=by
 cases x with
 | none=>exact q2 rfl h
 | some a=>exact q1 a rfl h
theorem B5t {α:Type} {x:Option α} {f:α → Bool} {g:Bool} {P:Prop} (h:B0h x f g = true) (q1:∀ a,x = some a → f a = true → P) (q2:x = Option.none → g = true → P):P:=by
 cases x with
 | none=>exact q2 rfl h
 | some a=>exact q1 a rfl h
theorem blP {γ:Type} {x:Bool} {f g:Option γ} {y:γ} {P:Prop} (h:@Bool.rec (fun _=>Option γ) g f x = some y) (q1:x = true → f = some y → P) (q2:x = false → g = some y → P):P:=by
 cases x with
 | false=>exact q2 rfl h
 | true=>exact q1 rfl h
theorem D2n {x:Option (Flo × Fm × St)} {k:Fm → St → Option (Flo × Fm × St)} {y:Flo × Fm × St} {P:Prop} (h:frB x k = some y) (q1:∀ f H,x = some (.nxt,f,H) → k f H = some y → P) (q2:∀ v f H,x = some (.ret v,f,H) → y = (.ret v,f,H) → P):P:=by
 cases x with
 | none=>exact noP h
 | some p =>
  obtain ⟨fl,f,H⟩:=p
  cases fl with
  | nxt=>exact q1 f H rfl h
  | ret v=>exact q2 v f H rfl (oYY h).symm
end Ab
end
end
section
set_option backward.match.sparseCases false
namespace Ab
structure Ly where
 sc:List (Str × NameKind)
 locs:List Str
 cels:List Str
noncomputable abbrev G:=List (Str × AV)
noncomputable def idxS (x:Str):List Str → Option Nat
 | []=>none
 | y :: r=>if x = y then some 0 else (idxS x r).map (· + 1)
noncomputable def cName (g:G) (ly:Ly) (x:Str):Option E :=
 if x = ("__debug__" : Str) then none else
 match ly.sc.lookup x with
 | some .local=>(idxS x ly.locs).map .loc
 | some .cell=>(idxS x ly.cels).map .cel
 | some .free=>if x = ("__classdict__" : Str) then none else (idxS x ly.cels).map .cel
 | some .globalImplicit=>(g.lookup x).map .lit
 | _=>none
noncomputable def cSlot (ly:Ly) (x:Str):Option Sl :=
 match ly.sc.lookup x with
 | some .local=>(idxS x ly.locs).map .loc
 | some .cell=>(idxS x ly.cels).map .cel
 | _=>none
theorem D3f {g:G} {ly:Ly} {x:Str} {e:E} {P:Prop} (h:cName g ly x = some e) (q1:¬x = ("__debug__" : Str) → ly.sc.lookup x = some .local → (idxS x ly.locs).map E.loc = some e → P)
  (q2:¬x = ("__debug__" : Str) → ly.sc.lookup x = some .cell → (idxS x ly.cels).map E.cel = some e → P) (q3:¬x = ("__debug__" : Str) → ly.sc.lookup x = some .free → ¬x = ("__classdict__" : Str) → (idxS x ly.cels).map E.cel = some e → P)
  (q4:¬x = ("__debug__" : Str) → ly.sc.lookup x = some .globalImplicit → (g.lookup x).map E.lit = some e → P):P:=by
 unfold cName at h
 by_cases hd:x = ("__debug__" : Str)
 ·rw [if_pos hd] at h; exact noP h
 ·rw [if_neg hd] at h
  revert h
  cases hk:ly.sc.lookup x with
  | none=>exact fun h=>noP h
  | some k=>cases k with
   | «local»=>exact q1 hd hk
   | cell=>exact q2 hd hk
   | free =>
    dsimp only
    by_cases hc:x = ("__classdict__" : Str)
    ·rw [if_pos hc]; exact fun h=>noP h
    ·rw [if_neg hc]; exact q3 hd hk hc
   | globalImplicit=>exact q4 hd hk
   | _=>exact fun h=>noP h
theorem D3e {ly:Ly} {x:Str} {s:Sl} {P:Prop} (h:cSlot ly x = some s) (q1:ly.sc.lookup x = some .local → (idxS x ly.locs).map Sl.loc = some s → P) (q2:ly.sc.lookup x = some .cell → (idxS x ly.cels).map Sl.cel = some s → P):P:=by
 unfold cSlot at h
 revert h
 cases hk:ly.sc.lookup x with
 | none=>exact fun h=>noP h
 | some k=>cases k with
  | «local»=>exact q1 hk
  | cell=>exact q2 hk
  | _=>exact fun h=>noP h
inductive EV | nm (x:Str) (p:Pos) | tp (ts:List Expr) (k:Nat) (p:Pos) | cl (fn:Expr) (as:List Expr) (kw:List Keyword) (p:Pos) | ot | sb (o i:Expr) (p:Pos)
noncomputable def ev:Expr → EV
 | .Subscript o i p=>.sb o i p
 | .Name x p=>.nm x p
 | .Tuple ts k p=>.tp ts k p
 | .Call fn as kw p=>.cl fn as kw p
 | _=>.ot
noncomputable def nmO (e:Expr):Option Str:=match ev e with
 | .nm x J=>some x
 | .tp J Y V=>none
 | .cl J Y V O=>none
 | .ot=>none
 | .sb J Y V=>none
noncomputable def F1f (e:Expr):Option (List Expr):=match ev e with
 | .nm J Y=>none
 | .tp ts J Y=>some ts
 | .cl J Y V O=>none
 | .ot=>none
 | .sb J Y V=>none
noncomputable def cTg (ly:Ly) (e:Expr):Option Tg:=match nmO e with
 | some x=>(cSlot ly x).map .one
 | none => do
  let p ← two! (← F1f e)
  some (.two (← cSlot ly (← nmO p.1)) (← cSlot ly (← nmO p.2)))
noncomputable def bop:Operator → Option BOp
 | .Add=>some .add | .Sub=>some .sub | .Mult=>some .mul | .FloorDiv=>some .fdiv | .Mod=>some .fmod | .Pow=>some .pow
 | _=>none
noncomputable def cop:CmpOp → Option COp
 | .Eq=>some .eq | .NotEq=>some .ne | .Lt=>some .lt | .In=>some .in_ | .NotIn=>none | .Is=>none
 | .LtE=>none | .IsNot=>some .isn | .Gt=>some .gt | .GtE=>none
noncomputable def mtd (x:Str):Option Mt :=
 if x = ("append" : Str) then some .append else if x = ("count" : Str) then some .count
 else if x = ("join" : Str) then some .join else if x = ("push_token" : Str) then some .push else if x = ("get_token" : Str) then some .tok else if x = ("index" : Str) then some .index else none
noncomputable def B0z:Expr → Bool
 | .Set ..=>false
 | .Starred ..=>false
 | _=>true
noncomputable def C0r:Expr → Bool
 | .Call ..=>false
 | _=>true
noncomputable def B9i (o:List (Str × NameKind)) (l:List (Str × NameKind)):List (Str × NameKind) :=
 l.map fun (n,k)=>if k == .free && o.lookup n == some .cell then (n,.cell) else (n,k)
noncomputable def D8s (l:List (Str × NameKind)):List Str:=(l.filter fun x=>x.2 == .local).map (·.1)
noncomputable def B2i (l:List (Str × NameKind)):List Str:=(l.filter fun x=>x.2 == .cell || x.2 == .free).map (·.1)
noncomputable def C5g (l:List (Str × NameKind)):Ly:=⟨l,D8s l,B2i l⟩
noncomputable def B6t (l:List Str):Bool:=@List.rec Str (fun _=>Bool) true (fun x r ih=>!(r.contains x) && ih) l
noncomputable def C3u (ly:Ly):List (Str × NameKind) → Option (List (Option Nat))
 | []=>some []
 | (x, .free) :: r => do some (some (← idxS x ly.cels) :: (← C3u ly r))
 | (J, .cell) :: r => do some (none :: (← C3u ly r))
 | J :: r=>C3u ly r
noncomputable def cL (f:Expr → Option E):List Expr → Option (List E)
 | []=>some []
 | e :: es => do some ((← f e) :: (← cL f es))
noncomputable def cO (f:Expr → Option E):Option Expr → Option (Option E)
 | none=>some none
 | some e => do some (some (← f e))
noncomputable def cSrcN (f : Expr → Option E) (e : Expr) : Option (Nat × E) := do
 gd (B0z e)
 some (0,← f e)
noncomputable def cSrcB (f:Expr → Option E) (b:BI) (as:List Expr) (e:Expr):Option (Nat × E):=match b with
 | .range => do
  let b ← one? as
  gd (B0z b)
  some (2,← f b)
 | .enumerate => do
  let a ← one? as
  gd (B0z a)
  some (1,← f a)
 | _ => do some (0, ← f e)
noncomputable def biO (o:Option E):Option BI:=match o with
 | some e=>match e with
  | .lit v=>match v with
   | .bi b=>some b
   | _=>none
  | _=>none
 | none=>none
noncomputable def D6k (e:Expr):Option (Expr × List Expr × List Keyword):=match ev e with
 | .nm J Y=>none
 | .tp J Y V=>none
 | .cl fn as kw J=>some (fn,as,kw)
 | .ot=>none
 | .sb J Y V=>none
noncomputable def F0n (g : G) (ly : Ly) (e : Expr) : Option (BI × List Expr) := do
 let c ← D6k e
 let x ← nmO c.1
 let b ← biO (cName g ly x)
 gd c.2.2.isEmpty
 some (b,c.2.1)
noncomputable def F0o (g:G) (ly:Ly) (f:Expr → Option E) (e:Expr):Option (Nat × E):=B0h (F0n g ly e) (fun p=>cSrcB f p.1 p.2 e) (cSrcN f e)
noncomputable def cKon:Const → Option E
 | .int i=>some (.lit (.int i))
 | .str s=>if (Nat.ble s.length 1000 && s.cps.toList.all fun c=>Nat.blt c 0x110000) = true then some (.lit (.str s.cps.toList)) else none
 | .none=>some (.lit .none)
 | .bool b=>some (.lit (.bool b))
 | _=>none
noncomputable def cUop:UnaryOp → E → Option E
 | .USub,a=>some (.neg a)
 | .Not,J=>none
 | .Invert,J=>none
 | .UAdd,J=>none
noncomputable def F1v (f:Expr → Option E):List CmpOp → List Expr → Option (List (COp × E))
 | [],es=>match es with | []=>some [] | J :: Y=>none
 | o :: os,es=>match es with
  | []=>none
  | e :: es => do
   gd (B0z e)
   let o' ← cop o
   let e' ← f e
   let l ← F1v f os es
   some ((o',e') :: l)
noncomputable def chnO (a:E):List (COp × E) → Option E
 | []=>none
 | p :: r=>some (.chn a p.1 p.2 r)
noncomputable def cCmp (f : Expr → Option E) (a : Expr) (os : List CmpOp) (bs : List Expr) : Option E := B0h (one? os) (fun o => do
 let b ← one? bs
 gd (B0z b)
 some (.cmp (← cop o) (← f a) (← f b))) do
 let l ← F1v f os bs
 chnO (← f a) l
noncomputable def strK:Expr → Option (List Nat)
 | .Constant k J Y=>match k with
  | .str s=>some s.cps.toList
  | _=>none
 | _=>none
noncomputable def inO:Expr → Option (Expr × Expr)
 | .Compare a os bs J => do
  let o ← one? os
  let b ← one? bs
  match o with
  | .In=>some (a,b)
  | _=>none
 | _=>none
noncomputable def addO:Expr → Option (Expr × Expr)
 | .BinOp a o b J=>match o with
  | .Add=>some (a,b)
  | _=>none
 | _=>none
noncomputable def F1l (ly:Ly) (x:Str):Option Nat:=match cSlot ly x with
 | some s=>match s with
  | .loc i=>some i
  | .cel J=>none
 | none=>none
noncomputable def locE:Option E → Option Nat
 | some e=>match e with
  | .loc i=>some i
  | _=>none
 | none=>none
noncomputable def escO (g : G) (ly : Ly) (c a b : Expr) : Option Nat := do
 let p ← inO c
 let x ← nmO p.1
 let s ← strK p.2
 let q ← addO a
 let y ← nmO q.2
 let z ← nmO b
 let u ← strK q.1
 gd (decide (s = [34,92]))
 gd (decide (u = [92]))
 gd (decide (y = x))
 gd (decide (z = x))
 locE (cName g ly x)
noncomputable def cIf (g : G) (ly : Ly) (f : Expr → Option E) (c a b : Expr) : Option E := do
 let x ← f c
 let y ← f a
 let z ← f b
 let i ← escO g ly c a b
 some (.esc i x y z)
noncomputable def F1u (f:Expr → Option E) (a:Expr):Expr → Option E
 | .Slice lo hi st J => do some (.slc (← f a) (← cO f lo) (← cO f hi) (← cO f st))
 | i => do some (.sub (← f a) (← f i))
noncomputable def isSl:Expr → Bool
 | .Slice lo hi st J=>true
 | i=>false
noncomputable def D5f:E → Option AV
 | .lit v=>some v
 | _=>none
noncomputable def cBop:BoolOp → List E → E
 | .And,as=>.and as
 | .Or,as=>.or as
noncomputable def D1g (g:G) (ly:Ly) (f:Expr → Option E) (as:List Expr) (kw:List Keyword) (p:Pos):Expr → Option E
 | .Name x J => do
  gd kw.isEmpty
  gd (as.all B0z && Nat.ble as.length 20)
  some (.call (← D5f (← cName g ly x)) (← cL f as))
 | .Attribute o x ap => do
  gd kw.isEmpty
  gd (C0r o)
  gd (ap.endLine == p.line)
  gd (as.all B0z && Nat.ble as.length 20)
  some (.meth (← f o) (← mtd x) (← cL f as))
 | _=>none
noncomputable def cAtt (g : G) (ly : Ly) (y : Str) (o : Expr) : Option E := do
 let x ← nmO o
 gd (decide (y = ("lineno" : Str)))
 some (.line (← cName g ly x))
noncomputable def cLc (g : G) (f : Ly → Expr → Option E) (ly : Ly) (elt : Expr) (q : Comprehension) (scope : Scope) : Option E := do
 gd (decide (q.is_async = 0))
 let (k,it) ← F0o g ly (f ly) q.iter
 let ly2:=C5g (B9i ly.sc scope.names)
 gd (decide (scope.kind = .function))
 gd (B6t (scope.names.map (·.1)))
 some (.comp (← f ly2 elt) (← cTg ly2 q.target) k it (← cL (f ly2) q.ifs) ly2.locs.length (← C3u ly scope.names))
noncomputable def cE (g:G):Nat → Ly → Expr → Option E
 | 0,J,Y=>none
 | n + 1,ly,e=>match e with
  | .Constant k J Y=>cKon k
  | .Name x J=>cName g ly x
  | .BinOp a o b J => do some (.bin (← bop o) (← cE g n ly a) (← cE g n ly b))
  | .UnaryOp o a J => do cUop o (← cE g n ly a)
  | .BoolOp o as J => do some (cBop o (← cL (cE g n ly) as))
  | .Compare a os bs J=>cCmp (cE g n ly) a os bs
  | .IfExp c a b J=>cIf g ly (cE g n ly) c a b
  | .Tuple as J Y => do gd (as.all B0z); some (.tup (← cL (cE g n ly) as))
  | .List as J => do gd (as.all B0z); some (.lst (← cL (cE g n ly) as))
  | .Subscript a i J=>F1u (cE g n ly) a i
  | .Call fn as kw p=>D1g g ly (cE g n ly) as kw p fn
  | .Attribute o y J=>cAtt g ly y o
  | .ListComp elt gs scope J => do cLc g (cE g n) ly elt (← one? gs) scope
  | _=>none
noncomputable def D7e (ly : Ly) (k : Nat) (l : List Expr) : Option (List (Nat × Sl)) := @List.rec Expr (fun _ => Nat → Option (List (Nat × Sl))) (fun J => some []) (fun t r ih k => do
  let x ← nmO t
  let s ← cSlot ly x
  let l ← ih (k + 1)
  some ((k,s) :: l)) l k
set_option backward.match.sparseCases true in
noncomputable def C5r (ly:Ly) (ts:List Expr) (v:Expr):Option Bool:=match v with
 | .Tuple vs J Y =>
  if !(ts.length == 2 || ts.length == 3) || vs.length != ts.length then some false else
  let line:=(ts.head?.map (·.pos.line)).getD 0
  let names:=ts.filterMap fun
   | .Name id pos=>if ly.sc.lookup id == some .local && pos.line == line then some id else none
   | _=>none
  if names.length != ts.length || names.eraseDups.length != names.length then some false else
  if vs.all (foldedForSure 8) then some false else
  if vs.all (constantsAlone 8) then none else some true
 | _=>some false
noncomputable def D2j:Expr → Bool
 | .Call ..=>true
 | _=>false
noncomputable def D8m:Expr → Bool
 | .ListComp ..=>false
 | _=>true
noncomputable def cAsg (g:G) (f:Expr → Option E) (ly:Ly) (e:Expr) (t:Expr):Option S:=match ev t with
 | .nm x J => do some (.asg (← cSlot ly x) (← f e))
 | .tp ts J Y => do
  gd (D8m e)
  let l ← D7e ly 0 ts
  let b ← C5r ly ts e
  some (.unp (if b then l.reverse else l) (← f e))
 | .cl J Y V O=>none
 | .ot=>none
 | .sb o i J=>none
noncomputable def sbO (e:Expr):Option (Expr × Expr):=match ev e with
 | .sb o i J=>some (o,i)
 | .nm J Y=>none
 | .tp J Y V=>none
 | .cl J Y V O=>none
 | .ot=>none
noncomputable def cAugS (f : Expr → Option E) (ly : Ly) (o : Operator) (e : Expr) (q : Expr × Expr) : Option S := do
 let x ← nmO q.1
 let y ← nmO q.2
 gd (!(x == ("__debug__" : Str)))
 gd (!(y == ("__debug__" : Str)))
 let i ← F1l ly x
 let j ← F1l ly y
 some (.augs i j (← bop o) (← f e))
noncomputable def cAug (f : Expr → Option E) (ly : Ly) (o : Operator) (e : Expr) (t : Expr) : Option S := B0h (sbO t) (cAugS f ly o e) do
 let x ← nmO t
 some (.aug (← cSlot ly x) (← bop o) (← f e))
mutual
noncomputable def cS (g:G):Nat → Ly → Stmt → Option S
 | 0,J,Y=>none
 | n + 1,ly,s=>match s with
  | .Expr e J => do gd (D2j e); some (.expr (← cE g n ly e))
  | .Assign ts e J => do cAsg g (cE g n ly) ly e (← one? ts)
  | .AugAssign t o e J=>cAug (cE g n ly) ly o e t
  | .If c a b J => do some (.iff (← cE g n ly c) (← cSs g n ly a) (← cSs g n ly b))
  | .For t it b els J => do
   gd els.isEmpty
   let (k,it) ← F0o g ly (cE g n ly) it
   some (.fr (← cTg ly t) k it (← cSs g n ly b))
  | .Return e J => do some (.ret (← cE g n ly (← e)))
  | _=>none
noncomputable def cSs (g:G):Nat → Ly → List Stmt → Option (List S)
 | 0,J,Y=>none
 | n + 1,ly,ss=>match ss with
  | []=>some []
  | s :: r => do some ((← cS g n ly s) :: (← cSs g n ly r))
end
noncomputable def C5b (ly:Ly):List Arg → Option (List Sl)
 | []=>some []
 | a :: r => do some ((← cSlot ly a.arg) :: (← C5b ly r))
noncomputable def cFn (g : G) (params : Arguments) (body : List Stmt) (scope : Scope) : Option FnC := do
 let ly:=C5g scope.names
 gd (B6t (scope.names.map (·.1)))
 gd (scope.names.all (fun x=>x.2 != .free))
 some ⟨params.args.length,ly.locs.length,ly.cels.length,← C5b ly params.args,← cSs g 60 ly body⟩
theorem C8b (e:Expr):match ev e with
  | .nm x p=>e = .Name x p
  | .tp ts k p=>e = .Tuple ts k p
  | .cl fn as kw p=>e = .Call fn as kw p
  | .sb o i p=>e = .Subscript o i p
  | .ot=>True:=by cases e <;> first | rfl | trivial
theorem B0s {e:Expr} {x:Str} (h:nmO e = some x):∃ p,e = .Name x p:=by
 have k:=C8b e
 unfold nmO at h
 cases q:ev e with
 | nm y p=>rw [q] at h k; exact ⟨p,oYY h ▸ k⟩
 | _=>rw [q] at h; exact noP h
theorem C5k {e:Expr} {ts:List Expr} (h:F1f e = some ts):∃ k p,e = .Tuple ts k p:=by
 have k:=C8b e
 unfold F1f at h
 cases q:ev e with
 | tp y n p=>rw [q] at h k; exact ⟨n,p,oYY h ▸ k⟩
 | _=>rw [q] at h; exact noP h
theorem C4z {e:Expr} {c:Expr × List Expr × List Keyword} (h:D6k e = some c):∃ p,e = .Call c.1 c.2.1 c.2.2 p:=by
 have k:=C8b e
 unfold D6k at h
 cases q:ev e with
 | cl fn as kw p=>rw [q] at h k; exact ⟨p,oYY h ▸ k⟩
 | _=>rw [q] at h; exact noP h
theorem twoE {α:Type} {l:List α} {p:α × α} (h:two! l = some p):l = [p.1,p.2]:=by
 cases l with
 | nil=>exact noP h
 | cons a r=>exact onP h fun b q h=>by rw [B0c q,← oYY h]
theorem D1l {o:Option E} {b:BI} (h:biO o = some b):o = some (.lit (.bi b)):=by
 cases o with
 | none=>exact noP h
 | some e=>cases e with
  | lit v=>cases v with
   | bi b'=>exact oYY h ▸ rfl
   | _=>exact noP h
  | _=>exact noP h
theorem C5a {g:G} {ly:Ly} {e:Expr} {p:BI × List Expr} (h:F0n g ly e = some p):∃ x px q,e = .Call (.Name x px) p.2 [] q ∧ cName g ly x = some (.lit (.bi p.1)):=by
 refine B0a h fun c ec h=>B0a h fun x ex h=>B0a h fun b eb h=>gdP h fun hk h=>B0m h fun z=>?_
 subst z
 obtain ⟨px,ex⟩:=B0s ex
 obtain ⟨q,ec⟩:=C4z ec
 rw [ex,List.isEmpty_iff.mp hk] at ec
 exact ⟨x,px,q,ec,D1l eb⟩
end Ab
end
section
namespace Ab
theorem C4e {α0 α1 β:Type} {x0:Option α0} {x1:α0 → Option α1} {k:α0 → α1 → Option β} {r:β} {P:Prop} (h:(x0 >>= fun a0=>(x1 a0 >>= fun a1=>k a0 a1)) = some r) (q:∀ a0,x0 = some a0 → ∀ a1,x1 a0 = some a1 → k a0 a1 = some r → P):P:=B0a h fun a0 e0 h=>B0a h fun a1 e1 h=>q a0 e0 a1 e1 h
theorem B5d {α0 α1 α2 β:Type} {x0:Option α0} {x1:α0 → Option α1} {x2:α0 → α1 → Option α2} {k:α0 → α1 → α2 → Option β} {r:β} {P:Prop} (h:(x0 >>= fun a0=>(x1 a0 >>= fun a1=>(x2 a0 a1 >>= fun a2=>k a0 a1 a2))) = some r) (q:∀ a0,x0 = some a0 → ∀ a1,x1 a0 = some a1 → ∀ a2,x2 a0 a1 = some a2 → k a0 a1 a2 = some r → P):P:=B0a h fun a0 e0 h=>B0a h fun a1 e1 h=>B0a h fun a2 e2 h=>q a0 e0 a1 e1 a2 e2 h
theorem C9e {α0 α1 α2 α3 β:Type} {x0:Option α0} {x1:α0 → Option α1} {x2:α0 → α1 → Option α2} {x3:α0 → α1 → α2 → Option α3} {k:α0 → α1 → α2 → α3 → Option β} {r:β} {P:Prop} (h:(x0 >>= fun a0=>(x1 a0 >>= fun a1=>(x2 a0 a1 >>= fun a2=>(x3 a0 a1 a2 >>= fun a3=>k a0 a1 a2 a3)))) = some r) (q:∀ a0,x0 = some a0 → ∀ a1,x1 a0 = some a1 → ∀ a2,x2 a0 a1 = some a2 → ∀ a3,x3 a0 a1 a2 = some a3 → k a0 a1 a2 a3 = some r → P):P:=B0a h fun a0 e0 h=>B0a h fun a1 e1 h=>B0a h fun a2 e2 h=>B0a h fun a3 e3 h=>q a0 e0 a1 e1 a2 e2 a3 e3 h
theorem D6t {α0 α1 α2 α3 α4 β:Type} {x0:Option α0} {x1:α0 → Option α1} {x2:α0 → α1 → Option α2} {x3:α0 → α1 → α2 → Option α3} {x4:α0 → α1 → α2 → α3 → Option α4} {k:α0 → α1 → α2 → α3 → α4 → Option β} {r:β} {P:Prop} (h:(x0 >>= fun a0=>(x1 a0 >>= fun a1=>(x2 a0 a1 >>= fun a2=>(x3 a0 a1 a2 >>= fun a3=>(x4 a0 a1 a2 a3 >>= fun a4=>k a0 a1 a2 a3 a4))))) = some r) (q:∀ a0,x0 = some a0 → ∀ a1,x1 a0 = some a1 → ∀ a2,x2 a0 a1 = some a2 → ∀ a3,x3 a0 a1 a2 = some a3 → ∀ a4,x4 a0 a1 a2 a3 = some a4 → k a0 a1 a2 a3 a4 = some r → P):P:=B0a h fun a0 e0 h=>B0a h fun a1 e1 h=>B0a h fun a2 e2 h=>B0a h fun a3 e3 h=>B0a h fun a4 e4 h=>q a0 e0 a1 e1 a2 e2 a3 e3 a4 e4 h
theorem F1b {α0 α1 β:Type} {x0:Option α0} {x1:α0 → Option α1} {g2:α0 → α1 → Bool} {g3:α0 → α1 → Bool} {k:α0 → α1 → Option β} {r:β} {P:Prop} (h:(x0 >>= fun a0=>(x1 a0 >>= fun a1=>(gd (g2 a0 a1) >>= fun Z=>(gd (g3 a0 a1) >>= fun Z=>k a0 a1)))) = some r) (q:∀ a0,x0 = some a0 → ∀ a1,x1 a0 = some a1 → (g2 a0 a1 = true) → (g3 a0 a1 = true) → k a0 a1 = some r → P):P:=B0a h fun a0 e0 h=>B0a h fun a1 e1 h=>gdP h fun c4 h=>gdP h fun c5 h=>q a0 e0 a1 e1 c4 c5 h
theorem F1a {α0 α1 β:Type} {x0:Option α0} {g1:α0 → Bool} {x2:α0 → Option α1} {k:α0 → α1 → Option β} {r:β} {P:Prop} (h:(x0 >>= fun a0=>(gd (g1 a0) >>= fun Z=>(x2 a0 >>= fun a1=>k a0 a1))) = some r) (q:∀ a0,x0 = some a0 → (g1 a0 = true) → ∀ a1,x2 a0 = some a1 → k a0 a1 = some r → P):P:=B0a h fun a0 e0 h=>gdP h fun c2 h=>B0a h fun a1 e1 h=>q a0 e0 c2 a1 e1 h
theorem C9d {α0 α1 α2 α3 β:Type} {x0:Option α0} {g1:α0 → Bool} {x2:α0 → Option α1} {x3:α0 → α1 → Option α2} {x4:α0 → α1 → α2 → Option α3} {k:α0 → α1 → α2 → α3 → Option β} {r:β} {P:Prop} (h:(x0 >>= fun a0=>(gd (g1 a0) >>= fun Z=>(x2 a0 >>= fun a1=>(x3 a0 a1 >>= fun a2=>(x4 a0 a1 a2 >>= fun a3=>k a0 a1 a2 a3))))) = some r) (q:∀ a0,x0 = some a0 → (g1 a0 = true) → ∀ a1,x2 a0 = some a1 → ∀ a2,x3 a0 a1 = some a2 → ∀ a3,x4 a0 a1 a2 = some a3 → k a0 a1 a2 a3 = some r → P):P:=B0a h fun a0 e0 h=>gdP h fun c2 h=>B0a h fun a1 e1 h=>B0a h fun a2 e2 h=>B0a h fun a3 e3 h=>q a0 e0 c2 a1 e1 a2 e2 a3 e3 h
theorem D6s {α0 β:Type} {g0:Bool} {x1:Option α0} {k:α0 → Option β} {r:β} {P:Prop} (h:(gd (g0) >>= fun Z=>(x1 >>= fun a0=>k a0)) = some r) (q:(g0 = true) → ∀ a0,x1 = some a0 → k a0 = some r → P):P:=gdP h fun c0 h=>B0a h fun a0 e0 h=>q c0 a0 e0 h
theorem F0z {α0 α1 α2 β:Type} {g0:Bool} {x1:Option α0} {x2:α0 → Option α1} {x3:α0 → α1 → Option α2} {k:α0 → α1 → α2 → Option β} {r:β} {P:Prop} (h:(gd (g0) >>= fun Z=>(x1 >>= fun a0=>(x2 a0 >>= fun a1=>(x3 a0 a1 >>= fun a2=>k a0 a1 a2)))) = some r) (q:(g0 = true) → ∀ a0,x1 = some a0 → ∀ a1,x2 a0 = some a1 → ∀ a2,x3 a0 a1 = some a2 → k a0 a1 a2 = some r → P):P:=gdP h fun c0 h=>B0a h fun a0 e0 h=>B0a h fun a1 e1 h=>B0a h fun a2 e2 h=>q c0 a0 e0 a1 e1 a2 e2 h
theorem B_gg {β:Type} {g0:Bool} {g1:Bool} {k:Option β} {r:β} {P:Prop} (h:(gd (g0) >>= fun Z=>(gd (g1) >>= fun Z=>k)) = some r) (q:(g0 = true) → (g1 = true) → k = some r → P):P:=gdP h fun c0 h=>gdP h fun c1 h=>q c0 c1 h
theorem B_ggb {α0 β:Type} {g0:Bool} {g1:Bool} {x2:Option α0} {k:α0 → Option β} {r:β} {P:Prop} (h:(gd (g0) >>= fun Z=>(gd (g1) >>= fun Z=>(x2 >>= fun a0=>k a0))) = some r) (q:(g0 = true) → (g1 = true) → ∀ a0,x2 = some a0 → k a0 = some r → P):P:=gdP h fun c0 h=>gdP h fun c1 h=>B0a h fun a0 e0 h=>q c0 c1 a0 e0 h
theorem D6r {α0 α1 α2 β:Type} {g0:Bool} {g1:Bool} {x2:Option α0} {x3:α0 → Option α1} {x4:α0 → α1 → Option α2} {k:α0 → α1 → α2 → Option β} {r:β} {P:Prop} (h:(gd (g0) >>= fun Z=>(gd (g1) >>= fun Z=>(x2 >>= fun a0=>(x3 a0 >>= fun a1=>(x4 a0 a1 >>= fun a2=>k a0 a1 a2))))) = some r) (q:(g0 = true) → (g1 = true) → ∀ a0,x2 = some a0 → ∀ a1,x3 a0 = some a1 → ∀ a2,x4 a0 a1 = some a2 → k a0 a1 a2 = some r → P):P:=gdP h fun c0 h=>gdP h fun c1 h=>B0a h fun a0 e0 h=>B0a h fun a1 e1 h=>B0a h fun a2 e2 h=>q c0 c1 a0 e0 a1 e1 a2 e2 h
end Ab
end
section
namespace hd2
noncomputable def stL:List Stmt → Nat → Stmt
 | s :: _,0=>s
 | _ :: r,n + 1=>stL r n
 | [],_=>.Pass default
noncomputable def fdA (s:Stmt):Arguments:=(DefRec.ofStmt? s).elim default DefRec.params
noncomputable def fdB (s:Stmt):List Stmt:=(DefRec.ofStmt? s).elim [] DefRec.body
noncomputable def fdS (s:Stmt):Scope:=(DefRec.ofStmt? s).elim default DefRec.scope
abbrev pw:Program:=PySem.Challenge.pw_wf0058_02
noncomputable def top (i:Nat):Stmt:=stL pw.main.body i
noncomputable def met (_ j:Nat):Stmt:=stL ((pw.theClass "_netrclex").elim [] fun c=>c.2.1) j
noncomputable def view2:Program:={ pw with main:={ pw.main with body:=[top 1,top 2,top 3,top 4,top 5,top 6,top 7,top 9,top 10,top 11,top 13,top 15,top 16,top 17,top 18,top 19,top 20,top 21,top 22,top 23,top 24] } }
@[reducible] noncomputable def cO (nm:Str) (t1:Nat) (qn:Str) (t2 t3 l c r1 r2:Nat) (v3 v4 v5:Value) (m t4:Nat):Obj:=Obj.mk (Value.type "code") Option.none (Data.fields (List.toArray [Value.str nm t1,Value.str qn t2,Value.str (Str.ofString "/claim/cut.py") t3,Value.int (Int.ofNat l) 0,Value.int (Int.ofNat c) 0,Value.int 0 0,Value.int 0 0,Value.int 3 0,Value.ref r1,Value.bool Bool.true,Value.int 181 0,Value.ref r2,Value.none,v3,v4,v5,Value.int (Int.ofNat m) 0,Value.int (Int.ofNat l) 0,Value.str (Str.ofString "/claim/cut.py") t4])) (List.toArray [])
@[reducible] noncomputable def fO (nm qn:Str) (a:Arguments) (b:List Stmt) (s:Scope) (md:Value) (cd:Nat):Obj:=Obj.mk (Value.type "function") Option.none (Data.func (FuncData.mk nm qn a (FuncBody.stmts b) s 3 [] Value.none Value.none Value.none md Option.none (Value.ref cd) Value.none 0)) (List.toArray [])
@[reducible] noncomputable def dE (P:Params) (x:Str) (t:Nat) (v:Value):DictEntry:=DictEntry.mk (PyData.keyHash P x) (Value.str x t) v
noncomputable def heap_39:Params → Frag:=by
 refine' (fun (a0:Arguments) (_:a0 = fdA (top 2)) (b0:List Stmt) (_:b0 = fdB (top 2)) (s0:Scope) (_:s0 = fdS (top 2))
  (a1:Arguments) (_:a1 = fdA (top 3)) (b1:List Stmt) (_:b1 = fdB (top 3)) (s1:Scope) (_:s1 = fdS (top 3))
  (a2:Arguments) (_:a2 = fdA (top 4)) (b2:List Stmt) (_:b2 = fdB (top 4)) (s2:Scope) (_:s2 = fdS (top 4))
  (a3:Arguments) (_:a3 = fdA (top 5)) (b3:List Stmt) (_:b3 = fdB (top 5)) (s3:Scope) (_:s3 = fdS (top 5))
  (a4:Arguments) (_:a4 = fdA (top 6)) (b4:List Stmt) (_:b4 = fdB (top 6)) (s4:Scope) (_:s4 = fdS (top 6))
  (a5:Arguments) (_:a5 = fdA (top 7)) (b5:List Stmt) (_:b5 = fdB (top 7)) (s5:Scope) (_:s5 = fdS (top 7))
  (a6:Arguments) (_:a6 = fdA (top 9)) (b6:List Stmt) (_:b6 = fdB (top 9)) (s6:Scope) (_:s6 = fdS (top 9))
  (a7:Arguments) (_:a7 = fdA (top 10)) (b7:List Stmt) (_:b7 = fdB (top 10)) (s7:Scope) (_:s7 = fdS (top 10))
  (a8:Arguments) (_:a8 = fdA (top 11)) (b8:List Stmt) (_:b8 = fdB (top 11)) (s8:Scope) (_:s8 = fdS (top 11))
  (a9:Arguments) (_:a9 = fdA (met 13 0)) (b9:List Stmt) (_:b9 = fdB (met 13 0)) (s9:Scope) (_:s9 = fdS (met 13 0))
  (a10:Arguments) (_:a10 = fdA (met 13 1)) (b10:List Stmt) (_:b10 = fdB (met 13 1)) (s10:Scope) (_:s10 = fdS (met 13 1))
  (a11:Arguments) (_:a11 = fdA (met 13 2)) (b11:List Stmt) (_:b11 = fdB (met 13 2)) (s11:Scope) (_:s11 = fdS (met 13 2))
  (a12:Arguments) (_:a12 = fdA (met 13 3)) (b12:List Stmt) (_:b12 = fdB (met 13 3)) (s12:Scope) (_:s12 = fdS (met 13 3))
  (a13:Arguments) (_:a13 = fdA (top 15)) (b13:List Stmt) (_:b13 = fdB (top 15)) (s13:Scope) (_:s13 = fdS (top 15))
  
  
  
  
  
  
  
  
  (P:Params)=>(
  (nat_lit 2,(Obj.mk Value.none (Option.none ) (Data.dict (List.toArray []) 0) (List.toArray []))) ::
  (nat_lit 3,(Obj.mk (Value.type "dict") (Option.none ) (Data.dict (List.toArray ((dE P (Str.ofString "__name__") (nat_lit 165) (Value.str (Str.ofString "law_wf0058_02") 363)) :: (dE P (Str.ofString "__doc__") (nat_lit 166) Value.none) :: (dE P (Str.ofString "__package__") (nat_lit 167) Value.none) :: (dE P (Str.ofString "__loader__") (nat_lit 168) (Value.builtin "__main__.__loader__#opaque")) :: (dE P (Str.ofString "__spec__") (nat_lit 169) Value.none) :: (dE P (Str.ofString "__annotations__") (nat_lit 170) (Value.ref 6)) :: (dE P (Str.ofString "__builtins__") (nat_lit 171) (Value.ref 4)) :: (dE P (Str.ofString "__file__") (nat_lit 173) (Value.str (Str.ofString "/claim/cut.py") 172)) :: (dE P (Str.ofString "__cached__") (nat_lit 174) Value.none) :: (dE P (Str.ofString "_DIV_LIMIT") (nat_lit 190) (Value.int (4000:Int) 189)) :: (dE P (Str.ofString "_div2n1n") (nat_lit 207) (Value.ref 21)) :: (dE P (Str.ofString "_div3n2n") (nat_lit 221) (Value.ref 28)) :: (dE P (Str.ofString "_int2digits") (nat_lit 232) (Value.ref 35)) :: (dE P (Str.ofString "_digits2int") (nat_lit 243) (Value.ref 42)) :: (dE P (Str.ofString "_divmod_pos") (nat_lit 258) (Value.ref 49)) :: (dE P (Str.ofString "int_divmod") (nat_lit 268) (Value.ref 56)) :: (dE P (Str.ofString "_iter_escaped_chars") (nat_lit 280) (Value.ref 63)) :: (dE P (Str.ofString "_strip_quoted_realnames") (nat_lit 292) (Value.ref 70)) :: (dE P (Str.ofString "_check_parenthesis") (nat_lit 302) (Value.ref 77)) :: (dE P (Str.ofString "_netrclex") (nat_lit 362) (Value.ref 115)) :: (dE P (Str.ofString "_law_lexer") (nat_lit 375) (Value.ref 126)) :: (dE P (Str.ofString "_law_names") (nat_lit 381) (Value.ref 131)) :: (dE P (Str.ofString "_law_text") (nat_lit 392) (Value.ref 138)) :: (dE P (Str.ofString "_law_row") (nat_lit 403) (Value.ref 145)) :: (dE P (Str.ofString "_law_ways") (nat_lit 413) (Value.ref 152)) :: (dE P (Str.ofString "_law_coupled") (nat_lit 419) (Value.ref 157)) :: (dE P (Str.ofString "_law_table") (nat_lit 425) (Value.ref 162)) :: (dE P (Str.ofString "_law_back") (nat_lit 435) (Value.ref 169)) :: (dE P (Str.ofString "_law_taken") (nat_lit 441) (Value.ref 174)) :: (dE P (Str.ofString "law") (nat_lit 447) (Value.ref 179)) :: [])) 30) (List.toArray []))) ::
  (nat_lit 20,(cO (Str.ofString "_div2n1n") (nat_lit 191) (Str.ofString "_div2n1n") (nat_lit 192) (nat_lit 193) (nat_lit 3) (nat_lit 3) (nat_lit 15) (nat_lit 16) (.ref (nat_lit 17)) (.ref (nat_lit 18)) (.ref (nat_lit 19)) (nat_lit 205) (nat_lit 206))) ::
  (nat_lit 21,(fO (Str.ofString "_div2n1n") (Str.ofString "_div2n1n") a0 b0 s0 (Value.str (Str.ofString "cpy313._pylong") 187) (nat_lit 20))) ::
  (nat_lit 27,(cO (Str.ofString "_div3n2n") (nat_lit 208) (Str.ofString "_div3n2n") (nat_lit 209) (nat_lit 210) (nat_lit 19) (nat_lit 6) (nat_lit 22) (nat_lit 23) (.ref (nat_lit 24)) (.ref (nat_lit 25)) (.ref (nat_lit 26)) (nat_lit 219) (nat_lit 220))) ::
  (nat_lit 28,(fO (Str.ofString "_div3n2n") (Str.ofString "_div3n2n") a1 b1 s1 (Value.str (Str.ofString "cpy313._pylong") 187) (nat_lit 27))) ::
  (nat_lit 34,(cO (Str.ofString "_int2digits") (nat_lit 222) (Str.ofString "_int2digits") (nat_lit 223) (nat_lit 224) (nat_lit 29) (nat_lit 2) (nat_lit 29) (nat_lit 30) (.ref (nat_lit 31)) (.ref (nat_lit 32)) (.ref (nat_lit 33)) (nat_lit 230) (nat_lit 231))) ::
  (nat_lit 35,(fO (Str.ofString "_int2digits") (Str.ofString "_int2digits") a2 b2 s2 (Value.str (Str.ofString "cpy313._pylong") 187) (nat_lit 34))) ::
  (nat_lit 41,(cO (Str.ofString "_digits2int") (nat_lit 233) (Str.ofString "_digits2int") (nat_lit 234) (nat_lit 235) (nat_lit 45) (nat_lit 2) (nat_lit 36) (nat_lit 37) (.ref (nat_lit 38)) (.ref (nat_lit 39)) (.ref (nat_lit 40)) (nat_lit 241) (nat_lit 242))) ::
  (nat_lit 42,(fO (Str.ofString "_digits2int") (Str.ofString "_digits2int") a3 b3 s3 (Value.str (Str.ofString "cpy313._pylong") 187) (nat_lit 41))) ::
  (nat_lit 48,(cO (Str.ofString "_divmod_pos") (nat_lit 244) (Str.ofString "_divmod_pos") (nat_lit 245) (nat_lit 246) (nat_lit 54) (nat_lit 2) (nat_lit 43) (nat_lit 44) (.ref (nat_lit 45)) (.ref (nat_lit 46)) (.ref (nat_lit 47)) (nat_lit 256) (nat_lit 257))) ::
  (nat_lit 49,(fO (Str.ofString "_divmod_pos") (Str.ofString "_divmod_pos") a4 b4 s4 (Value.str (Str.ofString "cpy313._pylong") 187) (nat_lit 48))) ::
  (nat_lit 55,(cO (Str.ofString "int_divmod") (nat_lit 259) (Str.ofString "int_divmod") (nat_lit 260) (nat_lit 261) (nat_lit 65) (nat_lit 2) (nat_lit 50) (nat_lit 51) (.ref (nat_lit 52)) (.ref (nat_lit 53)) (.ref (nat_lit 54)) (nat_lit 266) (nat_lit 267))) ::
  (nat_lit 56,(fO (Str.ofString "int_divmod") (Str.ofString "int_divmod") a5 b5 s5 (Value.str (Str.ofString "cpy313._pylong") 187) (nat_lit 55))) ::
  (nat_lit 62,(Obj.mk (Value.type "code") (Option.none ) (Data.fields (List.toArray ((Value.str (Str.ofString "_iter_escaped_chars") 271) :: (Value.str (Str.ofString "_iter_escaped_chars") 272) :: (Value.str (Str.ofString "/claim/cut.py") 273) :: (Value.int (77:Int) 0) :: (Value.int (1:Int) 0) :: (Value.int (0:Int) 0) :: (Value.int (0:Int) 0) :: (Value.int (35:Int) 0) :: (Value.ref 57) :: (Value.bool Bool.true) :: (Value.int (181:Int) 0) :: (Value.ref 58) :: Value.none :: (Value.ref 59) :: (Value.ref 60) :: (Value.ref 61) :: (Value.int (278:Int) 0) :: (Value.int (77:Int) 0) :: (Value.str (Str.ofString "/claim/cut.py") 279) :: []))) (List.toArray []))) ::
  (nat_lit 63,(fO (Str.ofString "_iter_escaped_chars") (Str.ofString "_iter_escaped_chars") a6 b6 s6 (Value.str (Str.ofString "cpy313.email.utils") 269) (nat_lit 62))) ::
  (nat_lit 69,(cO (Str.ofString "_strip_quoted_realnames") (nat_lit 281) (Str.ofString "_strip_quoted_realnames") (nat_lit 282) (nat_lit 283) (nat_lit 90) (nat_lit 1) (nat_lit 64) (nat_lit 65) (.ref (nat_lit 66)) (.ref (nat_lit 67)) (.ref (nat_lit 68)) (nat_lit 290) (nat_lit 291))) ::
  (nat_lit 70,(fO (Str.ofString "_strip_quoted_realnames") (Str.ofString "_strip_quoted_realnames") a7 b7 s7 (Value.str (Str.ofString "cpy313.email.utils") 269) (nat_lit 69))) ::
  (nat_lit 76,(cO (Str.ofString "_check_parenthesis") (nat_lit 293) (Str.ofString "_check_parenthesis") (nat_lit 294) (nat_lit 295) (nat_lit 108) (nat_lit 1) (nat_lit 71) (nat_lit 72) (.ref (nat_lit 73)) (.ref (nat_lit 74)) (.ref (nat_lit 75)) (nat_lit 300) (nat_lit 301))) ::
  (nat_lit 77,(fO (Str.ofString "_check_parenthesis") (Str.ofString "_check_parenthesis") a8 b8 s8 (Value.str (Str.ofString "cpy313.email.utils") 269) (nat_lit 76))) ::
  (nat_lit 90,(cO (Str.ofString "__init__") (nat_lit 317) (Str.ofString "_netrclex.__init__") (nat_lit 318) (nat_lit 319) (nat_lit 122) (nat_lit 2) (nat_lit 85) (nat_lit 86) (.ref (nat_lit 87)) (.ref (nat_lit 88)) (.ref (nat_lit 89)) (nat_lit 322) (nat_lit 323))) ::
  (nat_lit 91,(fO (Str.ofString "__init__") (Str.ofString "_netrclex.__init__") a9 b9 s9 (Value.str (Str.ofString "cpy313.netrc") 303) (nat_lit 90))) ::
  (nat_lit 97,(cO (Str.ofString "_read_char") (nat_lit 325) (Str.ofString "_netrclex._read_char") (nat_lit 326) (nat_lit 327) (nat_lit 128) (nat_lit 1) (nat_lit 92) (nat_lit 93) (.ref (nat_lit 94)) (.ref (nat_lit 95)) (.ref (nat_lit 96)) (nat_lit 330) (nat_lit 331))) ::
  (nat_lit 98,(fO (Str.ofString "_read_char") (Str.ofString "_netrclex._read_char") a10 b10 s10 (Value.str (Str.ofString "cpy313.netrc") 303) (nat_lit 97))) ::
  (nat_lit 104,(cO (Str.ofString "get_token") (nat_lit 333) (Str.ofString "_netrclex.get_token") (nat_lit 334) (nat_lit 335) (nat_lit 134) (nat_lit 1) (nat_lit 99) (nat_lit 100) (.ref (nat_lit 101)) (.ref (nat_lit 102)) (.ref (nat_lit 103)) (nat_lit 340) (nat_lit 341))) ::
  (nat_lit 105,(fO (Str.ofString "get_token") (Str.ofString "_netrclex.get_token") a11 b11 s11 (Value.str (Str.ofString "cpy313.netrc") 303) (nat_lit 104))) ::
  (nat_lit 111,(cO (Str.ofString "push_token") (nat_lit 343) (Str.ofString "_netrclex.push_token") (nat_lit 344) (nat_lit 345) (nat_lit 161) (nat_lit 2) (nat_lit 106) (nat_lit 107) (.ref (nat_lit 108)) (.ref (nat_lit 109)) (.ref (nat_lit 110)) (nat_lit 348) (nat_lit 349))) ::
  (nat_lit 112,(fO (Str.ofString "push_token") (Str.ofString "_netrclex.push_token") a12 b12 s12 (Value.str (Str.ofString "cpy313.netrc") 303) (nat_lit 111))) ::
  (nat_lit 114,(Obj.mk (Value.type "dict") (Option.none ) (Data.dict (List.toArray ((dE P (Str.ofString "__module__") (nat_lit 312) (Value.str (Str.ofString "cpy313.netrc") 303)) :: (dE P (Str.ofString "__firstlineno__") (nat_lit 316) (Value.int (120:Int) 315)) :: (dE P (Str.ofString "__init__") (nat_lit 324) (Value.ref 91)) :: (dE P (Str.ofString "_read_char") (nat_lit 332) (Value.ref 98)) :: (dE P (Str.ofString "get_token") (nat_lit 342) (Value.ref 105)) :: (dE P (Str.ofString "push_token") (nat_lit 350) (Value.ref 112)) :: (dE P (Str.ofString "__static_attributes__") (nat_lit 355) (Value.ref 113)) :: (dE P (Str.ofString "__dict__") (nat_lit 357) (Value.ref 116)) :: (dE P (Str.ofString "__weakref__") (nat_lit 359) (Value.ref 117)) :: (dE P (Str.ofString "__doc__") (nat_lit 360) Value.none) :: [])) 4) (List.toArray []))) ::
  (nat_lit 115,(Obj.mk (Value.type "type") (Option.none ) (Data.cls (ClassData.mk (Str.ofString "_netrclex") ((Value.type "object") :: []) ((Value.ref 115) :: (Value.type "object") :: []) 114 (Str.ofString "_netrclex") Bool.true [] [] Bool.false (Option.none ) Bool.false)) (List.toArray ((Option.none ) :: (Option.none ) :: (Option.some (Value.str (Str.ofString "_netrclex") 305)) :: (Option.some (Value.str (Str.ofString "_netrclex") 313)) :: (Option.some (Value.builtin "object.__new__")) :: (Option.some (Value.bool Bool.true)) :: [])))) ::
  (nat_lit 125,(cO (Str.ofString "_law_lexer") (nat_lit 365) (Str.ofString "_law_lexer") (nat_lit 366) (nat_lit 367) (nat_lit 164) (nat_lit 1) (nat_lit 120) (nat_lit 121) (.ref (nat_lit 122)) (.ref (nat_lit 123)) (.ref (nat_lit 124)) (nat_lit 373) (nat_lit 374))) ::
  (nat_lit 126,(fO (Str.ofString "_law_lexer") (Str.ofString "_law_lexer") a13 b13 s13 (Value.str (Str.ofString "law_wf0058_02") 363) (nat_lit 125))) ::
  (nat_lit 130,(cO (Str.ofString "_law_names") (nat_lit 376) (Str.ofString "_law_names") (nat_lit 377) (nat_lit 378) (nat_lit 174) (nat_lit 2) (nat_lit 127) (nat_lit 128) .none .none (.ref (nat_lit 129)) (nat_lit 379) (nat_lit 380))) ::
  (nat_lit 131,(fO (Str.ofString "_law_names") (Str.ofString "_law_names") (fdA (top 16)) (fdB (top 16)) (fdS (top 16)) (Value.str (Str.ofString "law_wf0058_02") 363) (nat_lit 130))) ::
  (nat_lit 137,(cO (Str.ofString "_law_text") (nat_lit 382) (Str.ofString "_law_text") (nat_lit 383) (nat_lit 384) (nat_lit 177) (nat_lit 2) (nat_lit 132) (nat_lit 133) (.ref (nat_lit 134)) (.ref (nat_lit 135)) (.ref (nat_lit 136)) (nat_lit 390) (nat_lit 391))) ::
  (nat_lit 138,(fO (Str.ofString "_law_text") (Str.ofString "_law_text") (fdA (top 17)) (fdB (top 17)) (fdS (top 17)) (Value.str (Str.ofString "law_wf0058_02") 363) (nat_lit 137))) ::
  (nat_lit 144,(cO (Str.ofString "_law_row") (nat_lit 393) (Str.ofString "_law_row") (nat_lit 394) (nat_lit 395) (nat_lit 185) (nat_lit 2) (nat_lit 139) (nat_lit 140) (.ref (nat_lit 141)) (.ref (nat_lit 142)) (.ref (nat_lit 143)) (nat_lit 401) (nat_lit 402))) ::
  (nat_lit 145,(fO (Str.ofString "_law_row") (Str.ofString "_law_row") (fdA (top 18)) (fdB (top 18)) (fdS (top 18)) (Value.str (Str.ofString "law_wf0058_02") 363) (nat_lit 144))) ::
  (nat_lit 151,(cO (Str.ofString "_law_ways") (nat_lit 404) (Str.ofString "_law_ways") (nat_lit 405) (nat_lit 406) (nat_lit 193) (nat_lit 1) (nat_lit 146) (nat_lit 147) (.ref (nat_lit 148)) (.ref (nat_lit 149)) (.ref (nat_lit 150)) (nat_lit 411) (nat_lit 412))) ::
  (nat_lit 152,(fO (Str.ofString "_law_ways") (Str.ofString "_law_ways") (fdA (top 19)) (fdB (top 19)) (fdS (top 19)) (Value.str (Str.ofString "law_wf0058_02") 363) (nat_lit 151))) ::
  (nat_lit 156,(cO (Str.ofString "_law_coupled") (nat_lit 414) (Str.ofString "_law_coupled") (nat_lit 415) (nat_lit 416) (nat_lit 202) (nat_lit 5) (nat_lit 153) (nat_lit 154) .none .none (.ref (nat_lit 155)) (nat_lit 417) (nat_lit 418))) ::
  (nat_lit 157,(fO (Str.ofString "_law_coupled") (Str.ofString "_law_coupled") (fdA (top 20)) (fdB (top 20)) (fdS (top 20)) (Value.str (Str.ofString "law_wf0058_02") 363) (nat_lit 156))) ::
  (nat_lit 161,(cO (Str.ofString "_law_table") (nat_lit 420) (Str.ofString "_law_table") (nat_lit 421) (nat_lit 422) (nat_lit 222) (nat_lit 1) (nat_lit 158) (nat_lit 159) .none .none (.ref (nat_lit 160)) (nat_lit 423) (nat_lit 424))) ::
  (nat_lit 162,(fO (Str.ofString "_law_table") (Str.ofString "_law_table") (fdA (top 21)) (fdB (top 21)) (fdS (top 21)) (Value.str (Str.ofString "law_wf0058_02") 363) (nat_lit 161))) ::
  (nat_lit 168,(cO (Str.ofString "_law_back") (nat_lit 426) (Str.ofString "_law_back") (nat_lit 427) (nat_lit 428) (nat_lit 229) (nat_lit 2) (nat_lit 163) (nat_lit 164) (.ref (nat_lit 165)) (.ref (nat_lit 166)) (.ref (nat_lit 167)) (nat_lit 433) (nat_lit 434))) ::
  (nat_lit 169,(fO (Str.ofString "_law_back") (Str.ofString "_law_back") (fdA (top 22)) (fdB (top 22)) (fdS (top 22)) (Value.str (Str.ofString "law_wf0058_02") 363) (nat_lit 168))) ::
  (nat_lit 173,(cO (Str.ofString "_law_taken") (nat_lit 436) (Str.ofString "_law_taken") (nat_lit 437) (nat_lit 438) (nat_lit 233) (nat_lit 3) (nat_lit 170) (nat_lit 171) .none .none (.ref (nat_lit 172)) (nat_lit 439) (nat_lit 440))) ::
  (nat_lit 174,(fO (Str.ofString "_law_taken") (Str.ofString "_law_taken") (fdA (top 23)) (fdB (top 23)) (fdS (top 23)) (Value.str (Str.ofString "law_wf0058_02") 363) (nat_lit 173))) ::
  (nat_lit 178,(cO (Str.ofString "law") (nat_lit 442) (Str.ofString "law") (nat_lit 443) (nat_lit 444) (nat_lit 244) (nat_lit 1) (nat_lit 175) (nat_lit 176) .none .none (.ref (nat_lit 177)) (nat_lit 445) (nat_lit 446))) ::
  (nat_lit 179,(fO (Str.ofString "law") (Str.ofString "law") (fdA (top 24)) (fdB (top 24)) (fdS (top 24)) (Value.str (Str.ofString "law_wf0058_02") 363) (nat_lit 178))) :: []:Frag)) _ ?_ _ ?_ _ ?_ _ ?_ _ ?_ _ ?_ _ ?_ _ ?_ _ ?_ _ ?_ _ ?_ _ ?_ _ ?_ _ ?_ _ ?_ _ ?_ _ ?_ _ ?_ _ ?_ _ ?_ _ ?_ _ ?_ _ ?_ _ ?_ _ ?_ _ ?_ _ ?_ _ ?_ _ ?_ _ ?_ _ ?_ _ ?_ _ ?_ _ ?_ _ ?_ _ ?_ _ ?_ _ ?_ _ ?_ _ ?_ _ ?_ _ ?_
 all_goals (try (show _ = _; conv=>rhs; whnf))
 all_goals (try rfl)
noncomputable def as3:List Addr:=[nat_lit 2,nat_lit 3,nat_lit 20,nat_lit 21,nat_lit 27,nat_lit 28,nat_lit 34,nat_lit 35,nat_lit 41,nat_lit 42,nat_lit 48,nat_lit 49,nat_lit 55,nat_lit 56,nat_lit 62,nat_lit 63,nat_lit 69,nat_lit 70,nat_lit 76,nat_lit 77,nat_lit 90,nat_lit 91,nat_lit 97,nat_lit 98,nat_lit 104,nat_lit 105,nat_lit 111,nat_lit 112,nat_lit 114,nat_lit 115,nat_lit 125,nat_lit 126,nat_lit 130,nat_lit 131,nat_lit 137,nat_lit 138,nat_lit 144,nat_lit 145,nat_lit 151,nat_lit 152,nat_lit 156,nat_lit 157,nat_lit 161,nat_lit 162,nat_lit 168,nat_lit 169,nat_lit 173,nat_lit 174,nat_lit 178,nat_lit 179]
abbrev r3:OpenRow:=PySem.Challenge.rw_wf0058_02.row
noncomputable def H3:Hook:=kmHook heap_39 as3 (fun _=>by kernel_rfl) [37,30,121]
theorem left:LeftO r3.prog view2 [] (fun s=>xlAt view2 [] s && recOk (RowW.records r3.toRowW) s) (Hook.obs H3) (Hook.val H3) 2064:=fun w=>by kernel_rfl
theorem said:PySem.Challenge.rw_wf0058_02.wellSaid = true:=by kernel_rfl
theorem prom:r3.toRowW.promised:=by w_witness2
end hd2
end
section
namespace Mine
noncomputable abbrev Pr:=PySem.Challenge.rw_wf0058_02.row.prog
inductive Cal (w:World) (b:Heap) (L:Addr) (d:Nat):Around → Prop
 | mk (A₀:Around) (base:Heap) (env:Env) (outer:List Env) (lo:List Str) (mean:ExcName → Option Value) (mg mb:Str → Option Value) (dp:Nat) (gd:Option (List Code)) (un:Nat) (B:Below A₀ base outer b) (h1:env.frame = some L) (h2:env.scope.kind = .function) (T:Top topProg lo mean mg mb b) (h3:dp + d < recursionLimit) (h4:un + 3 * d < cLine) (X:(hd2.heap_39 w.params).In b):Cal w b L d ⟨none,dp,some (env :: outer),gd,un⟩
theorem Cal.mono {w:World} {A:Around} {b:Heap} {L:Addr} {d d':Nat} (C:Cal w b L d A) (h:d' ≤ d):Cal w b L d' A:=by
 obtain ⟨A₀,base,env,outer,lo,mean,mg,mb,dp,gd,un,B,h1,h2,T,h3,h4,X⟩:=C
 exact ⟨A₀,base,env,outer,lo,mean,mg,mb,dp,gd,un,B,h1,h2,T,Ab.om244 h h3,Ab.om245 h h4,X⟩
theorem Cal.X {w:World} {A:Around} {b:Heap} {L:Addr} {d:Nat}:Cal w b L d A → (hd2.heap_39 w.params).In b
 | ⟨J,Y,V,O,U,W,K,N,G,M,P,Q,R,S,T,B,C,X⟩=>X
theorem Cal.mk' {w:World} {A:Around} {b:Heap} {L:Addr} {d:Nat} {A₀:Around} {base:Heap} {env:Env} {outer:List Env} {lo:List Str} {mean:ExcName → Option Value} {mg mb:Str → Option Value} {dp:Nat} {gd:Option (List Code)} {un:Nat}
  (B:Below A₀ base outer b) (X:(hd2.heap_39 w.params).In b) (T:Top topProg lo mean mg mb b) (hf:env.frame = some L) (hk:env.scope.kind = .function) (h1:dp + d < recursionLimit) (h2:un + 3 * d < cLine)
  (e:A = ⟨none,dp,some (env :: outer),gd,un⟩):Cal w b L d A :=
 e ▸ .mk A₀ base env outer lo mean mg mb dp gd un B hf hk T h1 h2 X
theorem pin {b h:Heap} {L:Addr} {m:Str → Option Value} {x:Str} {v:Value} (F:Fr b L h m) (e:m x = some v):Fr b L h (fun z=>if z = x then some v else m z):=by
 have:(fun z=>if z = x then some v else m z) = m:=by
  funext z
  by_cases q:z = x
  ·rw [if_pos q,q,e]
  ·rw [if_neg q]
 rw [this]; exact F
theorem B3k {b h:Heap} {L:Addr} {m:Str → Option Value} (F:Fr b L h m) (x:Str) {v:Value} (e:m x = some v):∃ m0:Str → Option Value,Fr b L h (fun z=>if z = x then some v else m0 z):=⟨m,pin F e⟩
theorem B3j {b h:Heap} {L:Addr} {m:Str → Option Value} (F:Fr b L h m) (x y:Str) {v u:Value} (e:m x = some v) (e2:m y = some u):∃ m0:Str → Option Value,Fr b L h (fun z=>if z = x then some v else if z = y then some u else m0 z):=by
 have F1:=pin F e2
 refine ⟨m,pin F1 ?_⟩
 by_cases q:x = y
 ·subst q; rw [if_pos rfl]; rw [e] at e2; exact e2.symm
 ·rw [if_neg q]; exact e
theorem C7t {b h:Heap} {L:Addr} {m:Str → Option Value} (F:Fr b L h m) (x y z:Str) {v u t:Value} (e:m x = some v) (e2:m y = some u) (e3:m z = some t) :
  ∃ m0:Str → Option Value,Fr b L h (fun q=>if q = x then some v else if q = y then some u else if q = z then some t else m0 q):=by
 obtain ⟨m0,F1⟩:=B3j F y z e2 e3
 have:∀ q,(fun q=>if q = y then some u else if q = z then some t else m q) q = m q:=by
  intro q
  dsimp only
  by_cases h1:q = y
  ·rw [if_pos h1,h1,e2]
  ·rw [if_neg h1]
   by_cases h2:q = z
   ·rw [if_pos h2,h2,e3]
   ·rw [if_neg h2]
 have F2:Fr b L h (fun q=>if q = y then some u else if q = z then some t else m q):=by rw [funext this]; exact F
 exact ⟨m,pin F2 ((this x).trans e)⟩
theorem C0w (a:Option Value) (d:Nat) (f:Option (List Env)) (g:Option (List Code)) (u:Nat):(Around.mk a d f g u).depth = d:=rfl
end Mine
end
section
namespace Mine
inductive TabSt (P:Addr) (qual:Str) (line col:Nat):Option (Addr × Obj) → List (Addr × Obj) → Prop
 | new:TabSt P qual line col none [(P,tabObj #[])]
 | hit (c:Addr) (oc:Obj) (vs:Array Value) (t:Tok):oc.data = .fields vs → vs[1]? = some (.str qual t) → TabSt P qual line col (some (c,oc)) [(P,tabObj #[rawInt line,rawInt col,.ref c]),(c,oc)]
section
variable {M:Model} {A:Around} {E:Value → Shared → Prop} {s:Shared} {h₀:Heap} {L a c P:Addr} {m mg mb:Str → Option Value} {cn:Str} {cs:Scope} {ccd:Value} {cl:List (Str × Addr)} {l tl R:List (Addr × Obj)} {o:Option (Addr × Obj)}
 {p:Program} {loose:List Str} {mean:ExcName → Option Value} {name qual:Str} {params:Arguments} {body:List Stmt} {scope:Scope} {pos:Pos} {firstLine:Nat} {clos:List (Str × Addr)}
theorem B5u {Q:Value → Shared → Prop} (F:Fr h₀ L s.heap m) (D:Led h₀ L s.heap l) (T:Top p loose mean mg mb h₀) (C:CodeHd h₀ c P) (hcd:ccd = .ref c) (hp:l.Perm (tl ++ R)) (st:TabSt P qual pos.line pos.col o tl)
  (hcl:closureFor scope (envX cn cs L a ccd cl) = pure clos)
  (h:∀ f c' oc vs t ctv doc h' tk,Fr h₀ L h' m →
   Led h₀ L h' ((f,fnMade name qual params body scope clos doc ((mg "__name__").getD .none) c' ctv) :: (P,tabObj #[rawInt pos.line,rawInt pos.col,.ref c']) :: (c',oc) :: R) →
   oc.data = .fields vs → vs[1]? = some (.str qual t) → (∀ x,o = some x → x = (c',oc)) → Q (.ref f) { s with heap:=h',toks:=tk }) :
  wpAny M A (makeFunction name qual params (.stmts body) scope (envX cn cs L a ccd cl) [] [] [] pos firstLine) Q E s:=by
 have D1:=D.perm hp
 cases st with
 | new =>
  have D1:Led h₀ L s.heap ((P,tabObj #[]) :: R):=D1
  refine nest_K F D1.n T C hcd (UpdF.head (B0d D1.nd)) (by exact True.intro) rfl hcl fun f c' oc vs t ctv doc h' tk F' N' hd hv l1 l2=>?_
  refine h f c' oc vs t ctv doc h' tk F' ⟨fun q hq=>N' q ?_,?_⟩ hd hv (fun Z q=>by cases q)
  ·simp only [List.mem_cons] at hq ⊢
   rcases hq with hq | hq | hq | hq
   ·exact .inl hq
   ·exact .inr (.inr (.inl hq))
   ·exact .inr (.inl hq)
   ·exact .inr (.inr (.inr hq))
  ·have lc:∀ q ∈ (P,tabObj #[]) :: R,q.1 < c':=l1
   have n1:Nd ((P,tabObj #[rawInt pos.line,rawInt pos.col,.ref c']) :: R):=D1.nd
   have n2:Nd ((c',oc) :: R):=B0i (fun q hq=>Nat.ne_of_lt (lc q (.tail _ hq))) (B0b D1.nd)
   refine B0i (fun q hq=>?_) (B0i (fun q hq=>?_) n2)
   ·simp only [List.mem_cons] at hq
    rcases hq with rfl | rfl | hq
    ·exact Nat.ne_of_lt (Nat.lt_trans (lc (P,tabObj #[]) (.head _)) l2)
    ·exact Nat.ne_of_lt l2
    ·exact Nat.ne_of_lt (Nat.lt_trans (lc q (.tail _ hq)) l2)
   ·rcases List.mem_cons.mp hq with rfl | hq
    ·exact Ne.symm (Nat.ne_of_lt (lc (P,tabObj #[]) (.head _)))
    ·exact B0d D1.nd q hq
 | hit c' oc vs t hd hv =>
  refine nestHit_K F D1.n T C hcd (ps:=#[rawInt pos.line,rawInt pos.col,.ref c']) (c':=c') (.head _) (by simp [TriplesOk,rawInt]) (by simp [codeAmong,rawInt]) hcl fun f ctv doc h' tk F' N' l1=>?_
  refine h f c' oc vs t ctv doc h' tk F' ⟨N',B0i (fun q hq=>Nat.ne_of_lt (l1 q hq)) D1.nd⟩ hd hv (fun x q=>(oYY q).symm)
end
end Mine
end
section
namespace Mine
noncomputable def C3n (n:Nat) (x:Int) (k:Nat):List Int:=@Nat.rec (fun _=>Int → List Int) (fun _=>[]) (fun _ ih x=>x % 2 ^ n :: ih (x / 2 ^ n)) k x
theorem C8g {n k:Nat} {x:Int}:C3n n x (k + 1) = x % 2 ^ n :: C3n n (x / 2 ^ n) k:=rfl
theorem B8m (n:Nat):∀ (k:Nat) (x:Int),(C3n n x k).length = k
 | 0,J=>rfl
 | k + 1,x=>by exact congrArg Nat.succ (B8m n k _)
theorem B0q (n:Nat):(0:Int) < 2 ^ n:=Int.pow_pos (by decide)
theorem C3m (n:Nat):∀ (j k:Nat) (x:Int),C3n n x (j + k) = C3n n x j ++ C3n n (x / 2 ^ (n * j)) k
 | 0,k,x=>by rw [Nat.zero_add,Nat.mul_zero,Int.pow_zero,Int.ediv_one]; rfl
 | j + 1,k,x=>by
  simp only [show j + 1 + k = (j + k) + 1 by exact Ab.om247,C8g,C3m n j k,List.cons_append]
  congr 2
  simp only [Int.ediv_ediv_of_nonneg (Int.le_of_lt (B0q n)),← Int.pow_add,Nat.mul_succ,Nat.add_comm]
theorem C0v (x:Int) (a b:Nat):x % 2 ^ (a + b) / 2 ^ a = x / 2 ^ a % 2 ^ b:=by
 rw [Int.pow_add]
 have h1:(0:Int) < 2 ^ a:=B0q a
 have h2:(0:Int) < 2 ^ b:=B0q b
 have e:=Int.mul_ediv_add_emod (x / 2 ^ a) (2 ^ b)
 have e2:=Int.mul_ediv_add_emod x (2 ^ a)
 have k1:=Int.emod_nonneg x (Int.ne_of_gt h1)
 have k2:=Int.emod_lt_of_pos x h1
 have k3:=Int.emod_nonneg (x / 2 ^ a) (Int.ne_of_gt h2)
 have k4:=Int.emod_lt_of_pos (x / 2 ^ a) h2
 generalize hq:x / 2 ^ a / 2 ^ b = q at *
 generalize hr:x / 2 ^ a % 2 ^ b = r at *
 generalize ht:x % 2 ^ a = t at *
 have hx:x = (2 ^ a * 2 ^ b) * q + (2 ^ a * r + t):=by
  rw [← e2,← e,Int.mul_add,Int.mul_assoc,Int.add_assoc]
 have l1:0 ≤ 2 ^ a * r + t:=by
  have:=Int.mul_nonneg (Int.le_of_lt h1) k3
  omega
 have l2:2 ^ a * r + t < 2 ^ a * 2 ^ b:=by
  have:2 ^ a * r ≤ 2 ^ a * (2 ^ b - 1):=Int.mul_le_mul_of_nonneg_left (by omega) (Int.le_of_lt h1)
  rw [Int.mul_sub,Int.mul_one] at this
  omega
 have hm:x % (2 ^ a * 2 ^ b) = 2 ^ a * r + t:=by
  rw [hx,Int.add_comm,Int.add_mul_emod_self_left,Int.emod_eq_of_lt l1 l2]
 rw [hm,Int.add_comm,Int.add_mul_ediv_left _ _ (Int.ne_of_gt h1),Int.ediv_eq_zero_of_lt k1 k2,Int.zero_add]
theorem C3l (n:Nat):∀ (j:Nat) (x:Int),C3n n (x % 2 ^ (n * j)) j = C3n n x j
 | 0,J=>rfl
 | j + 1,x=>by
  simp only [C8g]
  have e1:x % 2 ^ (n * (j + 1)) % 2 ^ n = x % 2 ^ n:=by
   simp only [Nat.mul_succ,Nat.add_comm,Int.pow_add]
   exact Int.emod_emod_of_dvd _ (Int.dvd_mul_right _ _)
  rw [e1,Nat.mul_succ,Nat.add_comm,C0v,C3l n j]
theorem C5c (a b:Nat):Builtin.bitAnd (a:Int) (b:Int) = ((a &&& b:Nat):Int):=by
 rfl
theorem C7h (x s:Nat):x &&& (x / 2 ^ s * 2 ^ s) = x / 2 ^ s * 2 ^ s:=by
 apply Nat.eq_of_testBit_eq
 intro i
 rw [Nat.testBit_and,← Nat.shiftRight_eq_div_pow,← Nat.shiftLeft_eq,Nat.testBit_shiftLeft,Nat.testBit_shiftRight]
 by_cases h:s ≤ i
 ·simp [h]
 ·simp [h]
theorem D3m (x:Int) (s:Nat) (hx:0 ≤ x):Builtin.bitXor x (x.fdiv (2 ^ s) * 2 ^ s) = x % 2 ^ s:=by
 (obtain ⟨a,e98⟩:=Int.eq_ofNat_of_zero_le hx; refine Ab.eqQ e98 ?_)
 rw [Int.fdiv_eq_ediv_of_nonneg _ (Int.le_of_lt (B0q s)),bitXor_and]
 have e:((a:Int) / 2 ^ s * 2 ^ s) = ((a / 2 ^ s * 2 ^ s:Nat):Int):=by
  push_cast
  rfl
 simp only [e,C5c,C7h]
 refine (let fG:Prop:=_; (?_:fG)); have h:=Nat.div_add_mod a (2 ^ s)
 rw [Nat.mul_comm] at h
 have e3:((a:Int) % 2 ^ s) = ((a % 2 ^ s:Nat):Int):=by push_cast; rfl
 (refine Ab.eqQ e3 ?_)
 exact Ab.om251 h
end Mine
namespace Mine
theorem B8d {vs vs':List Value} {bs bs':List Int} (h:IntsAre vs bs) (h':IntsAre vs' bs'):IntsAre (vs ++ vs') (bs ++ bs'):=by
 induction h with
 | nil=>exact h'
 | cons b t h ih=>exact .cons b t ih
theorem B2s {vs:List Value} {bs:List Int} (h:IntsAre vs bs):vs.length = bs.length:=by
 induction h with
 | nil=>rfl
 | cons b t h ih=>exact congrArg Nat.succ ih
theorem C6t (lo hi:Nat):((lo:Int) + (hi:Int)).fdiv (2 ^ Int.toNat 1) = (((lo + hi) / 2:Nat):Int):=by
 (refine Ab.eqQ (show (2:Int) ^ Int.toNat 1 = 2 by rfl) ?_; refine Ab.eqQ (Int.fdiv_eq_ediv_of_nonneg _ (by decide)) ?_)
 exact Ab.om252
theorem D7u (lo hi n:Nat) (h:lo < hi):(((lo:Int) + (hi:Int)).fdiv (2 ^ Int.toNat 1) - (lo:Int)) * (n:Int) = (((((lo + hi) / 2) - lo) * n:Nat):Int):=by
 simp only [C6t,← Int.ofNat_sub (by exact Ab.om253 h)]
 push_cast
 rfl
theorem C9r {x:Int} {n lo hi:Nat} (hx:0 ≤ x) (hl:x < 2 ^ (n * (hi - lo))) (hn:n < 1000) (hh:hi ≤ 300) (h:lo < hi) :
  (Builtin.Int.intBits (x.fdiv (2 ^ (((((lo + hi) / 2) - lo) * n:Nat))) ):Int) + (((((lo + hi) / 2) - lo) * n:Nat):Int) ≤ 2 ^ 27:=by
 have e:n * (hi - lo) ≤ 1000 * 300:=Nat.mul_le_mul (by exact Ab.F1k hn) (by exact Ab.om254 hh h)
 have e2:((lo + hi) / 2 - lo) * n ≤ 300 * 1000:=Nat.mul_le_mul (by exact Ab.om59 hh) (by exact Ab.F1k hn)
 have hb:Builtin.Int.intBits (x.fdiv (2 ^ (((((lo + hi) / 2) - lo) * n:Nat)))) ≤ n * (hi - lo):=by
  refine intBits_le_iff.mpr ?_
  (refine Ab.eqQ (Int.fdiv_eq_ediv_of_nonneg _ (Int.le_of_lt (B0q _))) ?_)
  have h1:=Int.ediv_nonneg hx (Int.le_of_lt (B0q (((lo + hi) / 2 - lo) * n)))
  have h2:=Int.ediv_le_self (2 ^ (((lo + hi) / 2 - lo) * n)) hx
  have h3:((2 ^ (n * (hi - lo)):Nat):Int) = 2 ^ (n * (hi - lo)):=by push_cast; rfl
  exact Ab.om255 hl h1 h2 h3
 exact Ab.om256 e e2 hb
theorem C9n {α} {vs w1:List α} {lo mid:Nat} (h1:lo ≤ vs.length) (h2:w1.length = mid - lo) (h3:lo ≤ mid) (r:List α):(vs.take lo ++ (w1 ++ r)).take mid = vs.take lo ++ w1:=by
 rw [← List.append_assoc,List.take_append_of_le_length (by simp; exact Ab.om257 h1 h2 h3),List.take_of_length_le (by simp; exact Ab.om258 h1 h2 h3)]
theorem D0y {α} {vs w1:List α} {lo mid hi:Nat} (h1:lo ≤ vs.length) (h2:w1.length = mid - lo) (h3:lo ≤ mid) (h4:mid ≤ hi):(vs.take lo ++ (w1 ++ vs.drop mid)).drop hi = vs.drop hi:=by
 rw [← List.append_assoc,List.drop_append,List.drop_of_length_le (by simp; exact Ab.om259 h1 h2 h3 h4),List.nil_append,List.drop_drop]
 congr 1
 simp
 exact Ab.om260 h1 h2 h3 h4
theorem D4e {α} {vs:List α} {lo:Nat} (v:α) (h:lo < vs.length):vs.set lo v = vs.take lo ++ ([v] ++ vs.drop (lo + 1)):=by
 (refine Ab.eqQ List.set_eq_take_append_cons_drop ?_; refine Ab.eqQ (if_pos h) ?_)
 rfl
section
variable {prog:Program} {w:World} {A:Around} {E:Value → Shared → Prop} {s:Shared} {h₀:Heap} {L D:Addr} {m:Str → Option Value} {news news':List (Addr × Obj)}
theorem D4f {vs:List Value} {n k:Nat} {t:Tok} {v:Value} {Q:Unit → Shared → Prop} (F:Fr h₀ L s.heap m) (N:News h₀ L s.heap news) (U:Upd D (listOf vs.toArray n) (listOf (vs.set k v).toArray n) news news') (h1:k < vs.length) (hz:k < 2 ^ 62)
  (h:∀ h',Fr h₀ L h' m → News h₀ L h' news' → Q () { s with heap:=h' }):wpAny (model prog w) A (setItem (.ref D) (.int (k:Nat) t) v) Q E s:=by
 (refine (let fG:Prop:=_; (?_:fG)); refine Ab.D3n U.split fun pre post e92 e93 a b=>?_; subst e92; subst e93)
 have z:=N (D,listOf vs.toArray n) (List.mem_append.mpr (.inr (.head _)))
 refine ki_setAt z.1 (Int.natCast_nonneg _) (by exact Ab.om261 hz) (by simp; exact Ab.F1j h1) (h _ (F.change (Heap.SameBut.update ..) z.2.1 z.2.2) (ki_turn _ N a b ?_ ?_))
 ·show vs.toArray.setIfInBounds ((k:Int)).toNat v = (vs.set k v).toArray
  simp
 ·simp
end
end Mine
namespace Mine
theorem B7e {x:Int} {a b c:Nat} (h:x < 2 ^ c) (e:c = a + b):x / 2 ^ a < 2 ^ b:=by
 subst e
 rw [Int.pow_add] at h
 exact Int.ediv_lt_of_lt_mul (B0q a) (by rw [Int.mul_comm]; exact h)
end Mine
namespace Mine
noncomputable def B6q (n:Nat) (a:Int):Nat:=(Builtin.Int.intBits a + n - 1) / n
theorem F0l {n:Nat} {a:Int} (hn:0 < n):((Builtin.Int.intBits a:Nat) + (n:Int) - 1).fdiv (n:Int) = (B6q n a:Int):=by
 (refine Ab.eqQ (Int.fdiv_eq_ediv_of_nonneg _ (Int.natCast_nonneg _)) ?_)
 unfold B6q
 (refine Ab.eqQ (show ((Builtin.Int.intBits a:Nat):Int) + (n:Int) - 1 = ((Builtin.Int.intBits a + n - 1:Nat):Int) by exact Ab.om262 hn) ?_)
 rfl
theorem C8l {n:Nat} {a:Int} (hn:0 < n) (ha:0 ≤ a):a < 2 ^ (n * B6q n a):=by
 have h:Builtin.Int.intBits a ≤ n * B6q n a:=by
  unfold B6q
  have h1:=Nat.div_add_mod (Builtin.Int.intBits a + n - 1) n
  have h2:=Nat.mod_lt (Builtin.Int.intBits a + n - 1) hn
  exact Ab.om263 h1 h2
 have h3:=intBits_le_iff.mp h
 have h4:((2 ^ (n * B6q n a):Nat):Int) = 2 ^ (n * B6q n a):=by push_cast; rfl
 exact Ab.om264 ha h3 h4
theorem D6f {n:Nat} {a:Int} (hn:0 < n) (ha:a ≠ 0):0 < B6q n a:=by
 unfold B6q
 refine Nat.div_pos ?_ hn
 have:0 < Builtin.Int.intBits a:=by
  unfold Builtin.Int.intBits
  (refine Ab.eqQ (if_neg (by simpa using ha)) ?_)
  exact Ab.om24
 exact Ab.om265 this
theorem D1b {n:Nat} (hn:0 < n):B6q n 0 = 0:=by
 unfold B6q
 have:Builtin.Int.intBits 0 = 0:=rfl
 (refine Ab.eqQ this ?_)
 exact Nat.div_eq_of_lt (by exact Ab.om266 hn)
end Mine
namespace Mine
theorem perm8 {α} (a b c d e x y z:α) (R:List α):(a :: b :: c :: d :: e :: x :: y :: z :: R).Perm (a :: c :: x :: y :: z :: d :: b :: e :: R) :=
 .cons a ((List.Perm.cons b (.cons c (List.perm_append_comm_assoc [d,e] [x,y,z] R))).trans (List.perm_middle (l₁:=[c,x,y,z,d]) (a:=b) (l₂:=e :: R)).symm)
end Mine
namespace Mine
noncomputable def B6f (n:Nat) (l:List Int):Int:=@List.rec Int (fun _=>Int) 0 (fun d _ ih=>d + 2 ^ n * ih) l
theorem B7d {n:Nat} {d:Int} {r:List Int}:B6f n (d :: r) = d + 2 ^ n * B6f n r:=rfl
theorem D2v {n:Nat}:B6f n [] = 0:=rfl
theorem C3k (n:Nat):∀ (x y:List Int),B6f n (x ++ y) = B6f n x + 2 ^ (n * x.length) * B6f n y
 | [],y=>by rw [D2v,Int.zero_add,List.length_nil,Nat.mul_zero,Int.pow_zero,Int.one_mul]; rfl
 | d :: x,y=>by
  simp only [List.cons_append,B7d,C3k n x y,List.length_cons,Nat.mul_succ,Nat.add_comm (n * x.length) n,Int.pow_add,Int.mul_add,Int.mul_assoc,Int.add_assoc]
noncomputable def C1z (n:Nat) (ds:List Int):Prop:=∀ d ∈ ds,0 ≤ d ∧ d < 2 ^ n
theorem C1o {n:Nat}:∀ {ds:List Int},C1z n ds → 0 ≤ B6f n ds ∧ B6f n ds < 2 ^ (n * ds.length)
 | [],J=>⟨Int.le_refl 0,by rw [List.length_nil,Nat.mul_zero,Int.pow_zero]; exact Int.one_pos⟩
 | d :: r,h=>by
  (have h1:=(h d (.head _)).1; have h2:=(h d (.head _)).2)
  obtain ⟨i1,i2⟩:=C1o (ds:=r) fun x hx=>h x (.tail _ hx)
  have hp:=B0q n
  simp only [B7d,List.length_cons,Nat.mul_succ,Nat.add_comm,Int.pow_add]
  have l1:=Int.mul_nonneg (Int.le_of_lt hp) i1
  have l2:2 ^ n * B6f n r ≤ 2 ^ n * (2 ^ (n * r.length) - 1):=Int.mul_le_mul_of_nonneg_left (by exact Ab.om267 i2) (Int.le_of_lt hp)
  rw [Int.mul_sub,Int.mul_one] at l2
  exact ⟨by exact Ab.om268 h1 l1,by exact Ab.om269 h2 l2⟩
theorem C3a {vs:List Value} {ds:List Int} (h:IntsAre vs ds):∀ {i:Nat},i < ds.length → ∃ d t,ds[i]? = some d ∧ vs[i]? = some (.int d t):=by
 induction h with
 | nil=>intro i hi; exact absurd hi (fun e=>nomatch e)
 | cons d t h ih =>
  intro i hi
  cases i with
  | zero=>exact ⟨d,t,rfl,rfl⟩
  | succ i =>
   (refine Ab.C0i (ih (Nat.lt_of_succ_lt_succ hi)) fun d' t' h1 h2=>?_)
   exact ⟨d',t',by simpa using h1,by simpa using h2⟩
theorem D6c {α} (ds:List α) {lo mid hi:Nat} (h1:lo ≤ mid) (h2:mid ≤ hi):(ds.drop lo).take (hi - lo) = (ds.drop lo).take (mid - lo) ++ (ds.drop mid).take (hi - mid):=by
 have e:hi - lo = (mid - lo) + (hi - mid):=by exact Ab.om270 h1 h2
 (refine Ab.eqQ e ?_; refine Ab.eqQ List.take_add ?_; refine Ab.eqQ List.drop_drop ?_; exact Ab.eqQ (show lo + (mid - lo) = mid by exact Ab.om271 h1 h2) rfl)
theorem D6b {ds:List Int} {lo:Nat} {d:Int} (h:ds[lo]? = some d):(ds.drop lo).take (lo + 1 - lo) = [d]:=by
 (refine Ab.eqQ (show lo + 1 - lo = 1 by exact Ab.om60) ?_)
 have hl:=(List.getElem?_eq_some_iff.mp h).1
 (refine Ab.eqQ (List.drop_eq_getElem_cons hl) ?_)
 have:=(List.getElem?_eq_some_iff.mp h).2
 (refine Ab.eqQ this ?_)
 rfl
theorem C8i {n:Nat} {ds:List Int} (h:C1z n ds) (lo j:Nat):C1z n ((ds.drop lo).take j):=fun d hd=>h d (List.mem_of_mem_drop (List.mem_of_mem_take hd))
theorem C5z {n s:Nat} {ds:List Int} (h:C1z n ds) (hl:ds.length ≤ 300) (hn:n < 1000) (hs:s ≤ 300000):(Builtin.Int.intBits (B6f n ds):Int) + (s:Int) ≤ 2 ^ 27:=by
 (have h1:=(C1o h).1; have h2:=(C1o h).2)
 have hb:Builtin.Int.intBits (B6f n ds) ≤ n * ds.length:=by
  refine intBits_le_iff.mpr ?_
  have h3:((2 ^ (n * ds.length):Nat):Int) = 2 ^ (n * ds.length):=by push_cast; rfl
  exact Ab.om272 h1 h2 h3
 have e:n * ds.length ≤ 1000 * 300:=Nat.mul_le_mul (by exact Ab.F1k hn) hl
 exact Ab.om273 hs hb e
end Mine
namespace Mine
theorem shb {lo hi n:Nat} (hn:n < 1000) (hh:hi ≤ 300):((lo + hi) / 2 - lo) * n ≤ 300000:=by
 have:=Nat.mul_le_mul (show (lo + hi) / 2 - lo ≤ 300 by exact Ab.om59 hh) (show n ≤ 1000 by exact Ab.F1k hn)
 exact Ab.om274 this
end Mine
namespace Mine
theorem C8h (n:Nat):∀ (k:Nat) (x:Int),C1z n (C3n n x k)
 | 0,J=>fun d hd=>by exact absurd hd (fun e=>nomatch e)
 | k + 1,x=>fun d hd=>by
  rcases List.mem_cons.mp hd with rfl | hd
  ·exact ⟨Int.emod_nonneg _ (Int.ne_of_gt (B0q n)),Int.emod_lt_of_pos _ (B0q n)⟩
  ·exact C8h n k _ d hd
theorem B6e (n:Nat):∀ (k:Nat) (x:Int),0 ≤ x → x < 2 ^ (n * k) → B6f n (C3n n x k) = x
 | 0,x,h0,h=>by
  rw [Nat.mul_zero,Int.pow_zero] at h
  show (0:Int) = x; exact Ab.om275 h0 h
 | k + 1,x,h0,h=>by
  simp only [C8g,B7d,B6e n k (x / 2 ^ n) (Int.ediv_nonneg h0 (Int.le_of_lt (B0q n))) (B7e h (by simp only [Nat.mul_succ,Nat.add_comm]))]
  have:=Int.mul_ediv_add_emod x (2 ^ n)
  exact Ab.om276 this
theorem D0z {A b r d Q p:Int} (hb:0 < b) (hA:A = b * Q + r):(A * p + d) / b = Q * p + (r * p + d) / b ∧ (A * p + d) % b = (r * p + d) % b:=by
 have e:A * p + d = (r * p + d) + b * (Q * p):=by
  rw [hA,Int.add_mul,Int.mul_assoc]; exact Ab.om277
 rw [e,Int.add_mul_ediv_left _ _ (Int.ne_of_gt hb),Int.add_mul_emod_self_left]
 exact ⟨Int.add_comm _ _,rfl⟩
noncomputable def B7m (n:Nat) (ds:List Int) (i:Nat):Int:=B6f n (ds.drop (ds.length - i))
theorem B9b (n:Nat) (ds:List Int):B7m n ds 0 = 0:=by
 unfold B7m
 (refine Ab.eqQ (List.drop_of_length_le (by exact Ab.om278)) ?_); rfl
theorem C2e (n:Nat) (ds:List Int):B7m n ds ds.length = B6f n ds:=by
 unfold B7m
 rw [Nat.sub_self,List.drop_zero]
theorem C5l {n:Nat} {ds:List Int} {i:Nat} {d:Int} (hi:i < ds.length) (hd:ds[ds.length - 1 - i]? = some d):B7m n ds (i + 1) = B7m n ds i * 2 ^ n + d:=by
 unfold B7m
 obtain ⟨h1,h2⟩:=List.getElem?_eq_some_iff.mp hd
 simp only [show ds.length - (i + 1) = ds.length - 1 - i by exact Ab.om279 hi h1,List.drop_eq_getElem_cons h1,h2,B7d,show ds.length - 1 - i + 1 = ds.length - i by exact Ab.om280 hi h1,Int.mul_comm,Int.add_comm]
theorem D4n {n:Nat} {b r d:Int} (hb:0 < b) (hr:0 ≤ r) (hrb:r < b) (hd:0 ≤ d) (hdn:d < 2 ^ n):0 ≤ (r * 2 ^ n + d) / b ∧ (r * 2 ^ n + d) / b < 2 ^ n:=by
 have hp:=B0q n
 have h1:=Int.mul_nonneg hr (Int.le_of_lt hp)
 refine ⟨Int.ediv_nonneg (by exact Ab.om281 hd h1) (Int.le_of_lt hb),Int.ediv_lt_of_lt_mul hb ?_⟩
 have h2:r * 2 ^ n ≤ (b - 1) * 2 ^ n:=Int.mul_le_mul_of_nonneg_right (by exact Ab.om282 hrb) (Int.le_of_lt hp)
 rw [Int.sub_mul,Int.one_mul] at h2
 (refine Ab.eqQ (Int.mul_comm (2 ^ n) b) ?_)
 exact Ab.om283 hdn h2
theorem C9j {n:Nat} {b r d:Int} (hb:0 < b) (hbn:b < 2 ^ n) (hr:0 ≤ r) (hrb:r < b) (hd:0 ≤ d) (hdn:d < 2 ^ n):Builtin.Int.intBits (r * 2 ^ n + d) ≤ n + n:=by
 refine intBits_le_iff.mpr ?_
 have hp:=B0q n
 have h1:=Int.mul_nonneg hr (Int.le_of_lt hp)
 have h2:r * 2 ^ n ≤ (2 ^ n - 1) * 2 ^ n:=Int.mul_le_mul_of_nonneg_right (by exact Ab.om284 hbn hrb) (Int.le_of_lt hp)
 rw [Int.sub_mul,Int.one_mul,← Int.pow_add] at h2
 have h3:((2 ^ (n + n):Nat):Int) = 2 ^ (n + n):=by push_cast; rfl
 exact Ab.om285 hd hdn h1 h2 h3
theorem D6o {b:Int} (hb:0 < b):b < 2 ^ (Builtin.Int.intBits b):=by
 have:=intBits_le_iff.mp (Nat.le_refl (Builtin.Int.intBits b))
 have h3:((2 ^ (Builtin.Int.intBits b):Nat):Int) = 2 ^ (Builtin.Int.intBits b):=by push_cast; rfl
 exact Ab.om286 hb this h3
end Mine
namespace Mine
theorem C4q {d:Int} (h:Builtin.Int.intBits d < 1000):d.natAbs.log2 < 9000:=by
 unfold Builtin.Int.intBits at h
 by_cases q:d = 0
 ·refine Ab.eqQ q ?_; decide
 ·rw [if_neg (by simpa using q)] at h; exact Ab.om287 h
theorem D1i {n:Nat} {d r:Int} (hb:d < 2 ^ n) (hr:0 ≤ r) (hrd:r < d) (hn:n < 1000):(Builtin.Int.intBits r:Int) + (n:Int) ≤ 2 ^ 27:=by
 have h3:((2 ^ n:Nat):Int) = 2 ^ n:=by push_cast; rfl
 have:Builtin.Int.intBits r ≤ n:=intBits_le_iff.mpr (by exact Ab.om288 hb hr hrd h3)
 exact Ab.om289 hn this
end Mine
namespace Mine
theorem D0n {vs:List Value} {bs:List Int} (h:IntsAre vs bs):IntsAre vs.reverse bs.reverse:=by
 induction h with
 | nil=>exact .nil
 | cons n t h ih=>(refine Ab.eqQ List.reverse_cons ?_; refine Ab.eqQ List.reverse_cons ?_); exact B8d ih (.cons n t .nil)
end Mine
namespace Mine
theorem F0k {n:Nat} {a:Int} (hn:0 < n) (h:Builtin.Int.intBits a ≤ 256 * n):B6q n a ≤ 256:=by
 unfold B6q
 have:=(Nat.div_lt_iff_lt_mul hn (x:=Builtin.Int.intBits a + n - 1) (y:=257)).mpr (by exact Ab.om290 hn h)
 exact Ab.om291 this
theorem D1j {d:Int} (h:d ≠ 0):0 < Builtin.Int.intBits d:=by
 unfold Builtin.Int.intBits
 (refine Ab.eqQ (if_neg (by simpa using h)) ?_); exact Ab.om24
theorem D1k {a:Int} (h:a < 0) {k:Nat} (hk:Builtin.Int.intBits a ≤ k):Builtin.Int.intBits (-1 - a) ≤ k:=by
 have h1:=intBits_le_iff.mp hk
 exact intBits_le_iff.mpr (by exact Ab.om292 h h1)
theorem D4u {a d:Int} (hd:0 < d):-1 - ((-1 - a) / d) = a / d ∧ d + (-1 - ((-1 - a) % d)) = a % d:=by
 have e:=Int.mul_ediv_add_emod (-1 - a) d
 have k1:=Int.emod_nonneg (-1 - a) (Int.ne_of_gt hd)
 have k2:=Int.emod_lt_of_pos (-1 - a) hd
 generalize hq:(-1 - a) / d = q at *
 generalize hr:(-1 - a) % d = r at *
 have ea:a = d * (-1 - q) + (d - 1 - r):=by
  simp only [Int.mul_sub,Int.mul_comm d (-1)]; exact Ab.om293 e
 have h1:(d - 1 - r) / d = 0:=Int.ediv_eq_zero_of_lt (by exact Ab.om61 k2 e ea) (by exact Ab.om62 k1 e)
 have h2:(d - 1 - r) % d = d - 1 - r:=Int.emod_eq_of_lt (by exact Ab.om61 k2 e ea) (by exact Ab.om62 k1 e)
 simp only [ea,Int.add_comm,Int.add_mul_ediv_left _ _ (Int.ne_of_gt hd),Int.add_mul_emod_self_left,h1,h2]
 exact Ab.om294
end Mine
end
section
namespace Mine
noncomputable abbrev ent (P:Params) (n:String) (k:Tok) (v:Value):DictEntry:=⟨PyData.keyHash P (Str.ofString n),.str (Str.ofString n) k,v⟩
structure LexA where
 (x d x2 d2 q q2 f:Addr) (fd:FuncData) (k1 k2 k3 k4 t3 j1 j2 j3 j4 j5 u1 u3:Tok) (ws:Str)
noncomputable abbrev LexA.oLine (z:LexA) (P:Params) (ln:Int) (t1:Tok):Obj :=
 dictOf [ent P "lineno" z.k1 (.int ln t1),ent P "instream" z.k2 (.ref z.x2),ent P "whitespace" z.k3 (.str (Str.ofString "\n\t\r ") z.t3),ent P "pushback" z.k4 (.ref z.q)] 4
noncomputable abbrev LexA.oStrm (z:LexA) (P:Params):Obj :=
 dictOf [ent P "lineno" z.j1 (.int 1 z.u1),ent P "instream" z.j2 .none,ent P "whitespace" z.j3 (.str (Str.ofString "\n\t\r ") z.u3),ent P "pushback" z.j4 (.ref z.q2),ent P "read" z.j5 (.ref z.f)] 5
noncomputable abbrev LexA.news (z:LexA) (P:Params) (ln:Int) (t1:Tok) (pb:List Value) (n:Nat):List (Addr × Obj) :=
 [(z.q,listOf pb.toArray n),(z.x,instObj 115 z.d),(z.d,z.oLine P ln t1),(z.x2,instObj 115 z.d2),(z.d2,z.oStrm P),(z.f,{ cls:=.type "function",data:=.func z.fd })]
noncomputable def pieceAt (y:Str) (k:Nat):Str:=match y.cps[k]? with
 | some c=>⟨#[c]⟩
 | none=>⟨#[]⟩
noncomputable def lnOf (y:Str) (k:Nat):Int:=1 + (((y.cps.toList.take k).count 10:Nat):Int)
noncomputable def stepK (y:Str) (k:Nat):Nat:=if k < y.cps.size then k + 1 else k
theorem C7a (y:Str) (k:Nat):lnOf y (stepK y k) = if pieceAt y k == Str.ofString "\n" then lnOf y k + 1 else lnOf y k:=by
 have e10:Str.ofString "\n" = ⟨#[10]⟩:=by decide
 rw [e10]
 unfold lnOf stepK pieceAt
 by_cases h:k < y.cps.size
 ·rw [if_pos h]
  have:y.cps[k]? = some y.cps[k]:=Array.getElem?_eq_getElem h
  have h2:y.cps.toList[k]? = some y.cps[k]:=by simpa using this
  rw [this,List.take_add_one,h2]
  simp only [Option.toList_some,List.count_append]
  by_cases hc:y.cps[k] = 10
  ·rw [hc]; simp; exact Ab.om507 h
  ·have:((⟨#[y.cps[k]]⟩:Str) == ⟨#[10]⟩) = false:=by
    rw [Bool.eq_false_iff]; intro q; exact hc (by simpa using q)
   simp only [this,Bool.false_eq_true,if_false]
   rw [List.count_eq_zero_of_not_mem (a:=10) (l:=[y.cps[k]]) (by simpa using fun q=>hc q.symm)]
   rfl
 ·rw [if_neg h,Array.getElem?_eq_none (by exact Ab.om6 h)]
  rfl
structure Piece (w:World) (z:LexA) (y:Str) where
 St:Nat → List (Addr × Obj) → Prop
 adr:∀ {k k':Nat} {pl pl':List (Addr × Obj)},St k pl → St k' pl' → pl'.map (·.1) = pl.map (·.1)
 ok:∀ {A:Around} {b:Heap} {L:Addr} {s:Shared} {m:Str → Option Value} {k:Nat} {pl rest:List (Addr × Obj)} {Q:Value → Shared → Prop} {t:Tok},Cal w b L 5 A → Fr b L s.heap m →
  Led b L s.heap (((z.f,{ cls:=.type "function",data:=.func z.fd }) :: pl) ++ rest) → St k pl → k ≤ y.cps.size →
  (∀ h' tk t' pl',Fr b L h' m → Led b L h' (((z.f,{ cls:=.type "function",data:=.func z.fd }) :: pl') ++ rest) → St (stepK y k) pl' → Q (.str (pieceAt y k) t') { s with heap:=h',toks:=tk }) →
  wpAny (model Pr w) A (call (.ref z.f) [.int 1 t]) Q Nev s
end Mine
end
section
namespace Mine
section
variable {prog:Program} {w:World} {A:Around} {E:Value → Shared → Prop} {s:Shared}
theorem C6p {a:Addr} {g n:Nat} {gs:GenState} {P:Nat → Shared → Shared → Prop} {Y:Protocol} {Q:Option Value → Shared → Prop} (hh:A.handled = none)
  (hl:s.heap.NoLimit) (hroom:A.depth < recursionLimit)
  (hg:s.heap.IsGen a g) (hgs:s.gens[g]? = some gs)
  (hgo:gs.Goes (model prog w) A.in1 (fun n s₀ r s₁=>r = .ok (.ret .none) ∧ P n s₀ s₁) Y n (.send .none) (s.setGen g .running))
  (hY:∀ v s₁ gs',gs'.bare = true → Y (n - 1) (s.setGen g .running) v s₁ (fun r' s''=>match n with
    | 0=>False
    | m + 1=>gs'.Goes (model prog w) A.in1 (fun n s₀ r s₁=>r = .ok (.ret .none) ∧ P n s₀ s₁) Y m r' s'') → Q (some v) (s₁.setGen g gs'))
  (hP:∀ s₁,P n (s.setGen g .running) s₁ → ∀ h',(∀ b o,s₁.heap.get? b = some o → h'.get? b = some o) → Q none { s₁.setGen g .finished with heap:=h' }) :
  wpAny (model prog w) A (pyNext (.ref a)) Q E s:=by
 unfold pyNext
 refine wpAny_bind (wpAny_attempt (wpAny_callSpecial?_slot (name:=Str.ofString "__next__") hg.typeIs slot_gen_next
  (wpAny_call_entry slot_gen_next hg.typeIs entry_gen_next ?_ (args_gen_next _))))
 show wpAny _ A.in1 (Builtin.Generator.genWake (.ref a) (.send .none)) _ _ s
 unfold Builtin.Generator.genWake
 refine wpAny_bind (wpAny_holding (wpAny_genNumber hg (wpAny_bind (wpAny_genState hgs ?_))))
 cases gs with
 | running=>exact hgo.elim
 | finished=>exact hgo.elim
 | _ =>
  refine wpAny_bind (wpAny_roomToWake hl hroom ?_)
  show wpAny _ A.in1 (.resume g (.send .none) [] _) _ _ s
  refine wpAny_resumeQ hgs hgo (fun x s₁ hx=>?_) (fun v s₁ gs' hb hv=>?_)
  ·((have e98:=hx.1; have hp:=hx.2); refine Ab.eqQ e98 ?_)
   show wpAny _ A.in1 (newExc (.type "StopIteration") [] >>= _) _ _ _
   refine wpAny_bind ?_
   simp only [newExc,newTuple]
   refine wpAny_bind (wpAny_newObj_type ?_ (by size_fits))
   refine wpAny_bind (m:=firstArgMember _ _) (wpAny_of_eq (a:=Value.none) (by first | rfl | (simp only [firstArgMember]; rfl)) ?_)
   refine wpAny_newObj_type ?_ (by size_fits)
   dsimp only [raiseNew]
   refine wpAny_bind (wpAny_bind (wpAny_handled ?_))
   first | rw [show A.in1.handled = none from hh] | rw [hh]
   refine wpAny_throw ?_
   refine wpAny_bind (wpAny_isInstance (T := "StopIteration") (b:=true) ⟨_,Heap.get?_push_size _ rfl,rfl⟩ isSubtype_stop ?_)
   exact wpAny_pure (hP s₁ hp _ fun b o hb=>Heap.get?_push_of_some _ (Heap.get?_push_of_some _ hb))
  ·exact wpAny_pure ⟨v,rfl,wpAny_pure (hY v s₁ gs' hb hv)⟩
theorem C6j {elts:List Expr} {x1} {pos:Pos} {I T:Addr} {g:Nat} {Q:Unit → Shared → Prop} (hit:s.heap.IsGen I g) (hQ:Q () s) :
  wpAny (model prog w) A (letOwnedTupleGo (.Tuple elts x1 pos) (.ref I) (.ref T)) Q E s:=by
 (refine Ab.D7g hit fun o nm qn ho hc hd Z=>?_)
 unfold letOwnedTupleGo
 refine wpAny_bind (wpAny_load ho ?_)
 (refine Ab.eqQ hc ?_; refine Ab.eqQ hd ?_)
 show wpAny _ A (if (["enumerate", "zip", "dict_itemiterator", "dict_reverseitemiterator", "odict_iterator", "itertools.zip_longest", "itertools.pairwise"].contains "generator" && _) = true then _ else _) Q E s
 rw [if_neg (by
  intro h
  rw [show (["enumerate", "zip", "dict_itemiterator", "dict_reverseitemiterator", "odict_iterator", "itertools.zip_longest", "itertools.pairwise"].contains "generator") = false from by decide,Bool.false_and] at h
  exact absurd h Bool.false_ne_true)]
 exact wpAny_pure hQ
end
theorem AllBare.set {a:Array GenState} {g:Nat} {x y:GenState} (h:AllBare a) (hy:y.bare = true):AllBare ((a.setIfInBounds g x).setIfInBounds g y):=by
 intro z hz
 obtain ⟨i,hi,rfl⟩:=Array.mem_iff_getElem.mp hz
 by_cases e:g = i
 ·(clear hz; subst e); simp [hy]
 ·rw [Array.getElem_setIfInBounds]
  ·simp only [e,if_false]
   rw [Array.getElem_setIfInBounds]
   ·simp only [e,if_false]
    exact h _ (Array.getElem_mem _)
   ·simpa using hi
  ·simpa using hi
theorem B7v {b h:Heap} {fp:List Addr}:((PyProof.Rows.ownOf b fp h).map (·.1)).Sublist fp:=by
 unfold PyProof.Rows.ownOf
 induction fp with
 | nil=>exact List.Sublist.slnil
 | cons a r ih =>
  simp only [List.filterMap_cons]
  split
  ·exact ih.cons _
  ·rename _=>hp; revert hp; rename _=>p; intro hp
   have:p.1 = a:=by
    split at hp
    ·cases q:h.get? a with
     | none=>replace hp:=q ▸ hp; exact Ab.noP hp
     | some o=>replace hp:=q ▸ hp; refine Ab.B0g hp ?_; rfl
    ·exact Ab.noP hp
   (refine Ab.eqQ List.map_cons ?_; refine Ab.eqQ this ?_)
   exact ih.cons_cons _
inductive GIn (M:Model) (A:Around) (b:Heap) (L:Addr) (s:Shared) (own:List Addr) (X:List (Int × Str)) (G:Addr) (oG:Obj) (g:Nat) (J:Nat → (Str → Option Value) → List (Addr × Obj) → Prop) (Rst:List (Addr × Obj)) (k:Nat) (s':Shared):Prop
 | mk (m':Str → Option Value) (ex':List (Addr × Obj)) (i:Nat) (gs':GenState) (e1:s'.drawn = s.drawn) (e2:s'.os = s.os) (hG:s'.heap.get? G = some oG) (hgs:s'.gens[g]? = some gs') (hgo:gs'.Goes M A.in1 (RG own) (YG b own X) (X.length - i) (.send .none) (s'.setGen g .running))
  (F:Fr b L s'.heap m') (D:Led b L s'.heap (ex' ++ Rst)) (hJ:J i m' ex') (hab:AllBare s.gens → AllBare s'.gens) (hi:i ≤ X.length) (hk:k = X.length + 1 - i)
section
variable {prog:Program} {w:World} {A:Around} {env:Env} {b:Heap} {body:List Stmt} {s:Shared} {m:Str → Option Value} {ex Rst:List (Addr × Obj)} {Q:Flow → Shared → Prop}
theorem D5n {xi xc:Str} {pk pv pt:Pos} {x1:Nat} {G:Addr} {g:Nat} {own:List Addr} {gs:GenState} {X:List (Int × Str)} (hh:A.handled = none) (hl:b.NoLimit) (hroom:A.depth < recursionLimit)
  (hxi:env.kindOf xi = some .local) (hxc:env.kindOf xc = some .local)
  (hp:(env.scope.kind == .class || (env.scope.kind == .module && env.locals != env.globals)) = false)
  (hLo:env.locals ∉ own) (hob:∀ a ∈ own,b.get? a = none) (hod:own.Nodup) (hG:s.heap.IsGen G g) (hGb:b.get? G = none) (hGo:G ∉ own) (hGL:G ≠ env.locals)
  (hgs:s.gens[g]? = some gs) (hgo:gs.Goes (model prog w) A.in1 (RG own) (YG b own X) X.length (.send .none) (s.setGen g .running))
  (F:Fr b env.locals s.heap m) (D:Led b env.locals s.heap (ex ++ Rst)) (hw:∀ p ∈ ex ++ Rst,p.1 ∉ G :: own)
  (J:Nat → (Str → Option Value) → List (Addr × Obj) → Prop) (h0:J 0 m ex) (hJa:∀ i m' ex',J i m' ex' → ex'.map (·.1) = ex.map (·.1))
  (step:∀ i x t1 t2 m₁ ex₁ gn h₁ tk T,X[i]? = some x → J i m₁ ex₁ → (AllBare s.gens → AllBare gn) → (∀ p ∈ Rst,p ∈ T) →
   Fr b env.locals h₁ (fun y=>if y = xc then some (.str x.2 t2) else if y = xi then some (.int x.1 t1) else m₁ y) → Led b env.locals h₁ (ex₁ ++ T) →
   wpAny (model prog w) A (execs body env) (StepEnd b env.locals (fun m' ex' g'=>J (i + 1) m' ex' ∧ g' = gn) T s (C5e Q)) Nev { s with heap:=h₁,toks:=tk,gens:=gn })
  (done:∀ h' tk gn m' ex',J X.length m' ex' → (AllBare s.gens → AllBare gn) → Fr b env.locals h' m' → Led b env.locals h' (ex' ++ Rst) → Q .next { s with heap:=h',toks:=tk,gens:=gn }) :
  B4n prog w A env (.Tuple [.Name xi pk,.Name xc pv] x1 pt) body Q (.ref G) s:=by
 refine (let fG:Prop:=_; (?_:fG)); have ne:∀ {α:Type} {t:Sem α} {Q:α → Shared → Prop} {s':Shared} {E:Value → Shared → Prop},wpAny (model prog w) A t Q Nev s' → wpAny (model prog w) A t Q E s':=fun h=>wpAny_mono h Mine.idE fun Z Z x=>x.elim
 have old:∀ a o,b.get? a = some o → a ∉ own:=fun a o e hb=>by replace e:=(hob a hb) ▸ e; exact Ab.noP e
 (refine Ab.D7g hG fun oG nm qn hG0 hGc hGd hGs=>?_)
 have isg:∀ h':Heap,h'.get? G = some oG → h'.IsGen G g:=fun h' e=>⟨oG,nm,qn,e,hGc,hGd,hGs⟩
 have hwa:∀ ex':List (Addr × Obj),ex'.map (·.1) = ex.map (·.1) → ∀ p ∈ ex' ++ Rst,p.1 ∉ G :: own:=fun ex' ha p hp'=>by
  rcases List.mem_append.mp hp' with q | q
  ·have:p.1 ∈ ex.map (·.1):=ha ▸ List.mem_map_of_mem q
   (refine Ab.B0o (List.mem_map.mp this) fun p' hp'' e=>?_)
   exact e ▸ hw p' (List.mem_append_left _ hp'')
  ·exact hw p (List.mem_append_right _ q)
 refine codeAny_forLoop_any (GIn (model prog w) A b env.locals s own X G oG g J Rst) ?_ (X.length + 1)
  ⟨m,ex,0,gs,rfl,rfl,hG0,hgs,hgo,F,D,h0,id,Nat.zero_le _,rfl⟩
 rintro k ⟨h',g',dr',tk',os'⟩ ⟨m',ex',i,gs',e1,e2,hG',hgs',hgo',F',D',hJ,hab,hi,rfl⟩
 dsimp only at e1 e2 hG' hgs' hgo' F' D' hab
 subst e1 e2
 have hw':=hwa ex' (hJa _ _ _ hJ)
 have hlim:h'.NoLimit:=hl.keeps F'.keep
 refine C6p (P:=fun n s₀ s₁=>n = 0 ∧ KeptG own s₀ s₁) hh hlim hroom (isg _ hG') hgs' hgo' (fun v s₁ gs'' hb hY=>?_) (fun s₁ hP h₁ hk₁=>?_)
 ·-- a turn
  cases hn:X.length - i with
  | zero =>
   replace hY:=hn ▸ hY
   (refine Ab.x0a4 hY fun Z Z hbk kap=>?_)
   exact (kap s₁ (fun Z Z Z e=>e) hbk).elim
  | succ k =>
   rw [hn] at hY
   obtain ⟨hK,⟨x,hx,T0,t1,t2,rfl,hT,_,hTb,hTo⟩,hbk,kap⟩:=hY
   rw [show X.length - (k + 1 - 1 + 1) = i by exact Ab.om316 hi hn] at hx
   have hlt:i < X.length:=by exact Ab.om317 hi hn
   have e3:s₁.gens = g'.setIfInBounds g .running:=hK.gens
   have e4:=hK.drawn
   have e5:=hK.os
   have kp1:∀ a o,a ∉ own → h'.get? a = some o → s₁.heap.get? a = some o:=hK.heap
   obtain ⟨sh,sg,sd,st,so⟩:=s₁
   dsimp only [Shared.setGen] at e3 e4 e5 hT hbk kap kp1 ⊢
   (refine Ab.eqQ e3 ?_; refine Ab.eqQ e4 ?_; refine Ab.eqQ e5 ?_)
   clear hK hgo'
   have hGs:sh.get? G = some oG:=kp1 _ _ hGo hG'
   refine C6j (isg _ hGs) ?_
   refine wpAny_assign_Tuple hh hT rfl rfl fun h₃ hx₃=>?_
   dsimp only at hx₃
   have up₃:∀ a o,sh.get? a = some o → h₃.get? a = some o:=fun a o y=>hx₃ a o (Nat.ne_of_lt (Heap.lt_size y)) y
   have F₃:Fr b env.locals h₃ m':=⟨F'.ns.at' fun o e=>up₃ _ o (kp1 _ o hLo e),fun a o e=>up₃ a o (kp1 a o (old a o e) (F'.keep a o e)),F'.above⟩
   have D₃:Led b env.locals h₃ (ex' ++ Rst):=D'.keep fun p hp=>up₃ _ _ (kp1 _ _ (fun q=>hw' p hp (.tail _ q)) (D'.n p hp).1)
   show wpAny _ A (do holding [.str x.2 t2] (assign (.Name xi pk) env (.int x.1 t1)); do holding [] (assign (.Name xc pv) env (.str x.2 t2)); pure ()) _ _ _
   refine wpAny_bind (wpAny_holding (wpAny_assign_Name (wpAny_storeName_local hxi F₃.ns (fun h₄ hn₄ hs₄=>?_) hp)))
   replace hs₄:Heap.SameBut env.locals h₃ h₄:=hs₄
   have F₄:=F₃.set hn₄ hs₄
   refine wpAny_bind (wpAny_holding (wpAny_assign_Name (wpAny_storeName_local hxc F₄.ns (fun h₅ hn₅ hs₅=>wpAny_pure ?_) hp)))
   replace hs₅:Heap.SameBut env.locals h₄ h₅:=hs₅
   have F₅:=F₄.set hn₅ hs₅
   have kL:∀ a o,a ≠ env.locals → h₃.get? a = some o → h₅.get? a = some o:=fun a o q e=>hs₅.extBut a o q (hs₄.extBut a o q e)
   have D₅:Led b env.locals h₅ (ex' ++ Rst):=D₃.keep fun p hp=>kL _ _ (D₃.n p hp).2.1 (D₃.n p hp).1
   have hG5:h₅.get? G = some oG:=kL _ _ hGL (up₃ _ _ hGs)
   have ko:∀ a ∈ own,∀ o,sh.get? a = some o → h₅.get? a = some o:=fun a ha o e=>kL a o (fun q=>hLo (q ▸ ha)) (up₃ a o e)
   have hLw:env.locals ∉ G :: own:=fun q=>by
    rcases List.mem_cons.mp q with q | q
    ·exact hGL q.symm
    ·exact hLo q
   have Nown:News b env.locals h₅ (PyProof.Rows.ownOf b (G :: own) h₅):=news_ownOf hLw
   have hsub:((PyProof.Rows.ownOf b (G :: own) h₅).map (·.1)).Sublist (G :: own):=B7v
   have hwd:(G :: own).Nodup:=List.nodup_cons.mpr ⟨hGo,hod⟩
   have DT:Led b env.locals h₅ (ex' ++ (PyProof.Rows.ownOf b (G :: own) h₅ ++ Rst)):=C7f D₅ Nown (hsub.nodup hwd) fun p hp hq=>hw' p hp (hsub.subset hq)
   generalize hgn:(g'.setIfInBounds g .running).setIfInBounds g gs'' = gn
   have hgnb:AllBare s.gens → AllBare gn:=fun h=>hgn ▸ AllBare.set (hab h) hb
   have hglt:g < g'.size:=by
    rcases Nat.lt_or_ge g g'.size with h | h
    ·exact h
    ·replace hgs':=(Array.getElem?_eq_none h) ▸ hgs'; exact Ab.noP hgs'
   have hgng:gn[g]? = some gs'':=by (refine Ab.eqR hgn ?_); simp [hglt]
   refine ne (wpAny_mono (step i x t1 t2 m' ex' gn h₅ _ _ hx hJ hgnb (fun p hp=>List.mem_append_right _ hp) F₅ DT) (fun f s₃ h₃=>?_) fun Z Z e=>e)
   have fin:(s₃.drawn = s.drawn ∧ s₃.os = s.os ∧ ∃ m'' ex'',Fr b env.locals s₃.heap m'' ∧ Led b env.locals s₃.heap (ex'' ++ (PyProof.Rows.ownOf b (G :: own) h₅ ++ Rst)) ∧ J (i + 1) m'' ex'' ∧ s₃.gens = gn) →
     ∃ mm,mm < X.length + 1 - i ∧ GIn (model prog w) A b env.locals s own X G oG g J Rst mm s₃:=by
    rintro ⟨e1,e2,m₂,ex₂,F₆,D₆,hJ₆,e3⟩
    have keep6:∀ a ∈ G :: own,∀ o,h₅.get? a = some o → s₃.heap.get? a = some o:=fun a ha o e=>by
     have hn:b.get? a = none:=by
      rcases List.mem_cons.mp ha with q | q
      ·(refine Ab.eqQ q ?_); exact hGb
      ·exact hob a q
     exact (D₆.n (a,o) (List.mem_append_right _ (List.mem_append_left _ (mem_ownOf ha hn e)))).1
    refine ⟨X.length + 1 - (i + 1),by exact Ab.om63 hlt,m₂,ex₂,i + 1,gs'',e1,e2,keep6 _ (.head _) _ hG5,e3 ▸ hgng,?_,F₆,C7e D₆ (List.Sublist.append_left (List.sublist_append_right _ _) _),hJ₆,e3 ▸ hgnb,hlt,rfl⟩
    ·(refine Ab.eqQ (show X.length - (i + 1) = k by exact Ab.om25 hn hlt) ?_)
     exact kap (s₃.setGen g .running) (fun a ha o e=>keep6 a (.tail _ ha) o (ko a ha o e)) F₆.keep
   cases f with
   | ret v=>exact h₃
   | brk=>exact h₃
   | cont=>exact fin h₃
   | next=>exact fin h₃
 ·(have hn:=hP.1; have hK:=hP.2)
  have hin:i = X.length:=by exact Ab.om318 hi hn
  (clear hn; subst hin)
  refine wpAny_execs_nil ?_
  have kp:∀ a o,a ∉ own → h'.get? a = some o → h₁.get? a = some o:=fun a o hn e=>hk₁ a o (hK.heap a o hn e)
  have r:=done h₁ s₁.toks ((g'.setIfInBounds g .running).setIfInBounds g .finished) m' ex' hJ (fun h=>AllBare.set (hab h) rfl)
   ⟨F'.ns.at' fun o e=>kp _ o hLo e,fun a o e=>kp a o (old a o e) (F'.keep a o e),F'.above⟩ (D'.keep fun p hp=>kp _ _ (fun q=>hw' p hp (.tail _ q)) (D'.n p hp).1)
  have e3:s₁.gens = g'.setIfInBounds g .running:=hK.gens
  have e4:=hK.drawn
  have e5:=hK.os
  obtain ⟨sh,sg,sd,st,so⟩:=s₁
  dsimp only [Shared.setGen] at e3 e4 e5 ⊢
  (refine Ab.eqQ e3 ?_; refine Ab.eqQ e4 ?_; refine Ab.eqQ e5 ?_)
  exact r
end
end Mine
end
section
namespace Mine
theorem slot_ci_next:Slot "callable_iterator" "__next__" "callable_iterator.__next__" :=
 .of (owner := "callable_iterator") (n := "__next__") (by rw [typeLookup_type,builtinLookup_eq_fast]; kernel_rfl) (by decide +kernel) (by decide +kernel) (by decide +kernel)
  (by first | exact .inl (by decide +kernel) | exact .inr (by decide +kernel)) (by rw [isSubtype_type]; kernel_rfl)
theorem B4p:Slot "callable_iterator" "__iter__" "callable_iterator.__iter__" :=
 .of (owner := "callable_iterator") (n := "__iter__") (by rw [typeLookup_type,builtinLookup_eq_fast]; kernel_rfl) (by decide +kernel) (by decide +kernel) (by decide +kernel)
  (by first | exact .inl (by decide +kernel) | exact .inr (by decide +kernel)) (by rw [isSubtype_type]; kernel_rfl)
theorem B3w:entryFor table "callable_iterator.__next__" = some Builtin.«callable_iterator.__next__»:=entryFor_of_fast (by kernel_rfl)
theorem B8k:entryFor table "callable_iterator.__iter__" = some Builtin.«dict_keyiterator.__iter__» :=
 entryFor_alias (id' := "dict_keyiterator.__iter__") (by kernel_rfl) rfl (by decide +kernel) (by kernel_rfl)
theorem C0f (a:Value):argsOk "callable_iterator.__iter__" ⟨[a],[]⟩:=by unfold argsOk; kernel_rfl
theorem B4z (a:Value):argsOk "callable_iterator.__next__" ⟨[a],[]⟩:=by unfold argsOk; kernel_rfl
theorem C5d (a c:Value):argsOk "iter" ⟨[a,c],[]⟩:=by unfold argsOk; kernel_rfl
theorem B5b:typeLookup (.type "method") (Str.ofString "__call__") = pure (some (.builtin "method.__call__")):=by rw [typeLookup_type,builtinLookup_eq_fast]; kernel_rfl
noncomputable abbrev B4l (f sent:Value) (b:Bool):Obj:={ cls:=.type "callable_iterator",data:=.fields #[f,sent,.bool b] }
section
variable {prog:Program} {w:World} {A:Around} {E:Value → Shared → Prop} {s:Shared}
theorem iter2 {q:Addr} {f x sent:Value} {Q:Value → Shared → Prop} (hq:s.heap.get? q = some (methodObj f x))
  (h:Q (.ref s.heap.objs.size) { s with heap:=s.heap.push (B4l (.ref q) sent false) }):wpAny (model prog w) A (call (.builtin "iter") [.ref q,sent]) Q E s:=by
 have hT:s.TypeIs (.ref q) "method" := ⟨_,hq,rfl⟩
 refine call_function_entry (by decide +kernel) (by decide +kernel) kdk_entry_iter (C5d _ _) ?_
 unfold Builtin.«iter»
 refine wpAny_bind (m:=someArgs "iter" 1 2 _) (wpAny_of_eq (a:=[Value.ref q,sent]) (by first | rfl | kernel_rfl!) ?_)
 show wpAny _ _ (specialOf (.ref q) (Str.ofString "__call__") >>= _) _ _ _
 refine wpAny_bind (wpAny_specialOf hT B5b ?_)
 simp only [Option.isNone_some,Bool.false_eq_true,if_false]
 refine wpAny_bind (wpAny_rule ?_)
 simp only [newFields]
 refine wpAny_bind (wpAny_newObj_type ?_ (by size_fits))
 exact wpAny_pure ⟨_,rfl,h⟩
theorem C1b {a:Addr} {f sent:Value} {b:Bool} {Q:Value → Shared → Prop} (hg:s.heap.get? a = some (B4l f sent b)) (h:Q (.ref a) s) :
  wpAny (model prog w) A (pyIter (.ref a)) Q E s:=by
 have hT:s.TypeIs (.ref a) "callable_iterator" := ⟨_,hg,rfl⟩
 refine wpAny_pyIter_slot hT B4p (wpAny_call_entry B4p hT B8k ?_ (C0f _))
 show wpAny _ _ (ret (.ref a)) _ _ s
 exact wpAny_pure ⟨_,rfl, "callable_iterator",_,hT,slot_ci_next.lookup,h⟩
theorem B8r {M:Model} {f:Value} {pos:List Value} {Q:Value → Shared → Prop}
  (hc:codeAny M A (.call f ⟨pos,[]⟩) (fun r s'=>match r with | .ok (.ret v)=>Q v s' | .ok J=>False | .error e=>E e s') s) :
  wpAny M A (callBorrowed f pos) Q E s:=by
 intro Γ p hΓ
 unfold callBorrowed
 rw [Sem.wp_call]
 refine wpCode_mono (fun r s' hr=>?_) (hc _ p rfl (hΓ.enter _ none p (by intro x; cases x)))
 cases r with
 | ok f=>cases f <;> first | exact hr.elim | exact hr
 | error e=>exact hr
theorem B3e {q f0:Addr} {x:Value} {o:Obj} {fd:FuncData} {Q:Bool → Shared → Prop} (hq:s.heap.get? q = some (methodObj (.ref f0) x)) (hf:s.heap.get? f0 = some o) (hd:o.data = .func fd)
  (h:Q true s):wpAny (model prog w) A (borrowsExactly (.ref q)) Q E s:=by
 unfold borrowsExactly
 refine wpAny_bind (wpAny_load hq ?_)
 dsimp only
 show wpAny _ _ (load f0 >>= _) _ _ _
 refine wpAny_bind (wpAny_load hf ?_)
 rw [hd]
 exact wpAny_pure h
theorem B8b {who:String} {busy:Code → Bool} {q f0:Addr} {x:Value} {o:Obj} {fd:FuncData} {Q:Unit → Shared → Prop} (hq:s.heap.get? q = some (methodObj (.ref f0) x)) (hf:s.heap.get? f0 = some o) (hd:o.data = .func fd)
  (h:Q () s):wpAny (model prog w) A (slotLetsGo who (.ref q) busy) Q E s:=by
 unfold slotLetsGo
 dsimp only
 refine wpAny_bind (B3e hq hf hd ?_)
 exact wpAny_pure h
theorem C5w {α:Type} {Q:α → Shared → Prop} {Q2:Option Value → Shared → Prop} (hh:A.handled = none) (h:∀ h',(∀ b ob,s.heap.get? b = some ob → h'.get? b = some ob) → Q2 none { s with heap:=h' }) :
  wpAny (model prog w) A.in1 (Builtin.SmallTypes.stopIteration : Sem α) Q (fun e s' => wpAny (model prog w) A (do
     let y ← isInstance e (Value.type "StopIteration")
     if y = true then pure none else throw e) Q2 E s') s:=by
 show wpAny _ A.in1 (newExc (.type "StopIteration") [] >>= _) _ _ _
 refine wpAny_bind ?_
 simp only [newExc,newTuple]
 refine wpAny_bind (wpAny_newObj_type ?_ (by size_fits))
 refine wpAny_bind (m:=firstArgMember _ _) (wpAny_of_eq (a:=Value.none) (by first | rfl | (simp only [firstArgMember]; rfl)) ?_)
 refine wpAny_newObj_type ?_ (by size_fits)
 dsimp only [raiseNew]
 refine wpAny_bind (wpAny_handled ?_)
 first | rw [show A.in1.handled = none from hh] | rw [hh]
 refine wpAny_bind (wpAny_pure (wpAny_throw ?_))
 refine wpAny_bind (wpAny_isInstance (T := "StopIteration") (b:=true) ⟨_,Heap.get?_push_size _ rfl,rfl⟩ isSubtype_stop ?_)
 exact wpAny_pure (h _ fun b o hb=>Heap.get?_push_of_some _ (Heap.get?_push_of_some _ hb))
theorem D4t {a q f0:Addr} {x:Value} {o:Obj} {fd:FuncData} {sent:Str} {t:Tok} {Q:Option Value → Shared → Prop} (hh:A.handled = none)
  (ha:s.heap.get? a = some (B4l (.ref q) (.str sent t) false)) (hq:s.heap.get? q = some (methodObj (.ref f0) x)) (hf:s.heap.get? f0 = some o) (hd:o.data = .func fd)
  (hc:codeAny (model prog w) A.in1 (.call (.ref f0) ⟨[x],[]⟩) (fun r s'=>match r with
   | .ok (.ret v)=>∃ y u,v = .str y u ∧ s'.heap.get? a = some (B4l (.ref q) (.str sent t) false) ∧ s'.heap.get? q = some (methodObj (.ref f0) x) ∧ s'.heap.get? f0 = some o ∧
    (sent ≠ y → Q (some v) s') ∧ (sent = y → ∀ h',h'.get? a = some (B4l .none .none true) → (∀ b ob,b ≠ a → s'.heap.get? b = some ob → h'.get? b = some ob) → Q none { s' with heap:=h' })
   | _=>False) s) :
  wpAny (model prog w) A (pyNext (.ref a)) Q E s:=by
 have hT:s.TypeIs (.ref a) "callable_iterator" := ⟨_,ha,rfl⟩
 unfold pyNext
 refine wpAny_bind (wpAny_attempt (wpAny_callSpecial?_slot (name:=Str.ofString "__next__") hT slot_ci_next
  (wpAny_call_entry slot_ci_next hT B3w ?_ (B4z _))))
 unfold Builtin.«callable_iterator.__next__»
 show wpAny _ A.in1 (field (.ref a) 2 >>= _) _ _ _
 refine wpAny_bind (wpAny_field ha rfl (x:=.bool false) rfl ?_)
 rw [if_neg (by decide)]
 show wpAny _ A.in1 (field (.ref a) 0 >>= _) _ _ _
 refine wpAny_bind (wpAny_field ha rfl (x:=.ref q) rfl ?_)
 refine wpAny_bind (wpAny_attempt ?_)
 unfold callOutOfASlot
 refine wpAny_bind (B3e hq hf hd ?_)
 rw [if_pos rfl]
 refine B8r ?_
 refine ks_codeAny_call_bound hq ?_
 refine codeAny_mono hc fun r s' hr=>?_
 cases r with
 | error e=>exact hr.elim
 | ok f =>
  cases f <;> try exact hr.elim
  revert hr; rename _=>v; intro hr
  obtain ⟨y,u,rfl,ha',hq',hf',h1,h2⟩:=hr
  dsimp only
  refine wpAny_bind (wpAny_field ha' rfl (x:=.bool false) rfl ?_)
  rw [if_neg (by decide)]
  show wpAny _ A.in1 (field (.ref a) 1 >>= _) _ _ _
  refine wpAny_bind (wpAny_field ha' rfl (x:=.str sent t) rfl ?_)
  refine wpAny_bind (wpAny_holding ?_)
  refine wpAny_eqBool_str ?_
  by_cases e:sent = y
  ·rw [decide_eq_true e]
   rw [if_neg (by decide)]
   refine wpAny_bind (wpAny_rule ?_)
   show wpAny _ A.in1 ((field (.ref a) 0 >>= _) >>= _) _ _ _
   refine wpAny_bind (wpAny_bind (wpAny_field ha' rfl (x:=.ref q) rfl ?_))
   refine wpAny_bind (B8b hq' hf' hd ?_)
   refine wpAny_bind (wpAny_setField_rec ha' (by simp) fun g1 e1 k1=>?_)
   refine wpAny_bind (wpAny_setField_rec (s:={ s' with heap:=g1 }) e1 (by simp) fun g2 e2 k2=>?_)
   refine wpAny_setField_rec (s:={ s' with heap:=g2 }) e2 (by simp) fun g3 e3 k3=>?_
   exact C5w hh (fun h' hk=>h2 e h' (hk _ _ e3) fun b ob hb q=>hk _ _ (k3.extBut b ob hb (k2.extBut b ob hb (k1.extBut b ob hb q))))
  ·rw [decide_eq_false e]
   rw [if_pos (by decide)]
   exact wpAny_pure ⟨_,rfl,wpAny_pure (h1 e)⟩
theorem C0t {a:Addr} {f sent:Value} {Q:Option Value → Shared → Prop} (hh:A.handled = none)
  (ha:s.heap.get? a = some (B4l f sent true)) (h:∀ h',(∀ b ob,s.heap.get? b = some ob → h'.get? b = some ob) → Q none { s with heap:=h' }) :
  wpAny (model prog w) A (pyNext (.ref a)) Q E s:=by
 have hT:s.TypeIs (.ref a) "callable_iterator" := ⟨_,ha,rfl⟩
 unfold pyNext
 refine wpAny_bind (wpAny_attempt (wpAny_callSpecial?_slot (name:=Str.ofString "__next__") hT slot_ci_next
  (wpAny_call_entry slot_ci_next hT B3w ?_ (B4z _))))
 unfold Builtin.«callable_iterator.__next__»
 show wpAny _ A.in1 (field (.ref a) 2 >>= _) _ _ _
 refine wpAny_bind (wpAny_field ha rfl (x:=.bool true) rfl ?_)
 rw [if_pos (by decide)]
 refine wpAny_bind (wpAny_rule ?_)
 exact wpAny_bind (C5w hh h)
end
end Mine
end
section
namespace Ab
noncomputable def lexO:AO → Option (List Nat × Nat)
 | .lex y k pb=>match pb with
  | []=>some (y,k)
  | J :: Y=>none
 | _=>none
noncomputable def two? (l:List AV):Option (AV × AV):=@List.rec AV (fun _=>Option (AV × AV)) none (fun a r J=>onB (one? r) fun b=>some (a,b)) l
theorem C2c {l:List AV} {p:AV × AV} (h:two? l = some p):l = [p.1,p.2]:=by
 cases l with
 | nil=>exact noP h
 | cons a r=>exact onP h fun b q h=>by rw [B0c q,← oYY h]
noncomputable def three? (l:List AV):Option (AV × AV × AV):=@List.rec AV (fun _=>Option (AV × AV × AV)) none (fun a r J=>onB (two? r) fun b=>some (a,b)) l
theorem B1b {a b:Bool} {P:Prop} (h:(a && b) = true) (q:a = true → b = true → P):P:=by cases a <;> cases b <;> first | exact q rfl rfl | (first | exact noP h | exact fT h | exact nomatch h)
end Ab
end
section
namespace Mine
section
variable {prog:Program} {w:World} {A:Around} {R:Result → Shared → Prop} {I:Addr} {fp wr:List Addr} {G:Array GenState → Array GenState → Prop} {n:Nat} {P:Nat → Value → Prop} {St:Nat → Shared → Prop}
theorem D0u (W:WalksS prog w A.in1 I fp wr G n P St) (m0:Nat) (hn:m0 + n ≤ sizeLine) (S:Addr) (hSf:S ∉ fp) (res:Value) :
  ∀ (k i:Nat) (s:Shared) (acc:Array Value) (c:Nat),n - i = k → i ≤ n → St i s → s.heap.get? S = some { cls:=.type "list",dict:=none,data:=.seq acc c,slots:=#[] } → acc.size = m0 + i →
  (∀ s' acc' c',Moved (S :: wr) G s s' → s'.heap.get? S = some { cls:=.type "list",dict:=none,data:=.seq acc' c',slots:=#[] } → acc'.size = m0 + n → R (.ok (.ret res)) s') →
  codeAny (model prog w) A (.builtin "list.extend.loop" ⟨[.ref S,.ref I,res],[]⟩) R s:=by
 have hSw:S ∉ wr:=fun h=>hSf (W.sub _ h)
 have hsub:∀ b ∈ wr,b ∈ S :: wr:=fun b hb=>List.mem_cons_of_mem _ hb
 intro k
 induction k with
 | zero =>
  intro i s acc c hk hi hst hS hacc hR
  have hin:i = n:=by exact Ab.om295 hk hi
  subst hin
  refine codeAny_builtin F.entry_extend_loop ?_
  rw [Around.under_plainId F.plain_extend_loop _]
  show wpAny _ A.in1 (pyNext (.ref I) >>= _) _ _ s
  refine wpAny_bind (W.done s _ _ hst fun s' hm=>?_)
  exact wpAny_pure (hR s' acc c (hm.mono hsub) (hm.heap S _ hSw hS) hacc)
 | succ k ih =>
  intro i s acc c hk hi hst hS hacc hR
  have hlt:i < n:=by exact Ab.om296 hk hi
  refine codeAny_builtin F.entry_extend_loop ?_
  rw [Around.under_plainId F.plain_extend_loop _]
  show wpAny _ A.in1 (pyNext (.ref I) >>= _) _ _ s
  refine wpAny_bind (W.item i s _ _ hlt hst fun v s' hP hst' hm=>?_)
  have hS':=hm.heap S _ hSw hS
  show wpAny _ A.in1 (updateSeq S (·.push v) >>= _) _ _ _
  refine wpAny_bind ?_
  refine wpAny_updateSeq hS' rfl (wpAny_pure ⟨plainId_quiet F.plain_extend_loop _,ih (i + 1) _ (acc.push v) _ (by exact Ab.om25 hk hlt) hlt (W.frame _ s' _ s'.toks hst' (Nat.le_refl _) fun b hb o e=>?_) (Heap.get?_update_self _ hS' rfl) (by rw [Array.size_push,hacc]; exact Ab.om297) fun s'' acc' c' hm'' hS'' hacc'=>?_⟩)
   (by rw [hacc]; exact Ab.om298 hn hacc hlt) (by show (acc.push v).size ≤ sizeLine + 1; rw [Array.size_push,hacc]; exact Ab.om299 hn hacc hlt)
  ·exact (Heap.get?_update_other _ _ (fun h:S = b=>hSf (by rw [h]; exact hb))).trans e
  ·refine hR s'' acc' c' (Moved.trans W.gtrans ((hm.mono hsub).then_heap (by first | exact Nat.le_refl _ | exact Nat.le_succ _ | omega) fun b o hb e=>?_) hm'') hS'' hacc'
   exact (Heap.get?_update_other _ _ (fun h:S = b=>hb (by rw [h]; exact List.mem_cons_self))).trans e
end
section
variable {prog:Program} {w:World} {A:Around} {E:Value → Shared → Prop} {s:Shared}
theorem D5t {Q:Value → Shared → Prop} (hh:A.handled = none) (x:Str) (t:Tok) (S:Addr) (acc:Array Value) (c₀:Nat) (hS:s.heap.get? S = some { cls:=.type "list",data:=.seq acc c₀ })
  (hn:acc.size + x.cps.size ≤ sizeLine)
  (hR:∀ h' tk acc' c',(∀ b o,b ≠ S → s.heap.get? b = some o → h'.get? b = some o) → h'.get? S = some { cls:=.type "list",dict:=none,data:=.seq acc' c',slots:=#[] } →
   acc'.size = acc.size + x.cps.size → Q .none { s with heap:=h',toks:=tk }) :
  wpAny (model prog w) A (call (.builtin "list.extend") [.ref S,.str x t]) Q E s:=by
 have hSI:S ≠ s.heap.objs.size:=Nat.ne_of_lt (Heap.lt_size hS)
 have hSf:S ∉ [s.heap.objs.size]:=fun hm=>hSI (List.mem_singleton.mp hm)
 refine wpAny_call (codeAny_call_builtin F.slot_list_extend.plain F.entry_list_extend (F.slot_list_extend.check _ _ _ _ _ _ _ _ ⟨_,hS,rfl⟩ (F.args_list_extend_2 _ _) ?_))
 show wpAny _ A.in1 (Builtin.List.listExtendWith (.ref S) (.str x t) .none) _ _ _
 unfold Builtin.List.listExtendWith
 refine wpAny_bind (wpAny_typeOf (T := "str") (v:=.str x t) rfl ?_)
 have h1:Builtin.List.listSameRef (.ref S) (.str x t) = false:=rfl
 have h2:(Value.type "str" == Value.type "list") = false:=by decide
 have h3:(Value.type "str" == Value.type "tuple") = false:=by decide
 simp only [h1,h2,h3,Bool.or_false,Bool.false_eq_true,if_false]
 refine wpAny_bind (wpAny_pyIter_str fun o St W hst=>?_)
 refine wpAny_bind (wpAny_holding ?_)
 unfold Builtin.List.listLengthHint
 refine wpAny_bind (wpAny_specialOf (T := "str") (v:=.str x t) rfl F.str_len ?_)
 wp_delta
 refine wpAny_bind (wpAny_isInstance (T := "str") (v:=.str x t) (b:=true) rfl (by rw [isSubtype_type]; kernel_rfl) ?_)
 show wpAny _ _ (typeOf (Value.str x t) >>= _) _ _ _
 refine wpAny_bind (wpAny_typeOf (T := "str") (v:=.str x t) rfl ?_)
 refine wpAny_pure ?_
 rw [if_neg (by decide)]
 refine wpAny_pure ⟨plainId_quiet F.plain_extend_loop _,D0u (W A.in1 hh).toS acc.size hn _ hSf _ x.cps.size 0 _ acc _ rfl (Nat.zero_le _) hst (Heap.get?_push_of_some _ hS) rfl fun s' acc' c' hm hS' hacc=>?_⟩
 rw [Moved.eq_with hm]
 refine hR s'.heap s'.toks acc' c' (fun b ob hb e=>hm.heap b ob (fun hmem=>?_) (Heap.get?_push_of_some _ e)) hS' hacc
 rcases List.mem_cons.mp hmem with e' | hmem
 ·exact hb e'
 ·exact absurd (Heap.lt_size e) (by rw [List.mem_singleton.mp hmem]; exact Nat.lt_irrefl _)
end
end Mine
end
section
open PySem PySem.W PyProof.Rows PySem.Calls Builtin.Str
namespace Mine
theorem D5m (k n:Nat) (h:k ≤ n):Builtin.Str.strSliceIndices (some (k:Int)) (some ((k:Int) + 1)) 1 n = if k < n then [k] else []:=by
 unfold Builtin.Str.strSliceIndices
 simp only [show (1:Int) > 0 by decide,if_true]
 rw [if_neg (show ¬ (k:Int) < 0 by exact Ab.om54),if_neg (show ¬ (k:Int) + 1 < 0 by exact Ab.om565)]
 by_cases hk:k < n
 ·rw [if_pos hk]
  have e1:max 0 (min (k:Int) (n:Int)) = k:=by exact Ab.om566 hk
  have e2:max 0 (min ((k:Int) + 1) (n:Int)) = k + 1:=by exact Ab.om567 hk e1
  rw [e1,e2]
  unfold sliceRange
  simp only [show (1:Int) > 0 by decide,if_true]
  rw [if_pos (by exact Ab.om568),show ((k:Int) + 1 - k + 1 - 1) / 1 = 1 by exact Ab.om569]
  simp
 ·rw [if_neg hk]
  have e1:max 0 (min (k:Int) (n:Int)) = n:=by exact Ab.om570 h hk
  have e2:max 0 (min ((k:Int) + 1) (n:Int)) = n:=by exact Ab.om571 h hk e1
  rw [e1,e2]
  unfold sliceRange
  simp
theorem C0n {y:Str} {k:Nat} (h:k ≤ y.cps.size):Txt.slice y (some (k:Int)) (some ((k:Int) + 1)) = pieceAt y k:=by
 unfold Txt.slice pieceAt
 rw [show y.length = y.cps.size from rfl,D5m k _ h]
 by_cases hk:k < y.cps.size
 ·rw [if_pos hk,Array.getElem?_eq_getElem hk]
  split
  ·rename _=>q
   have h1:y.cps.size = 1:=by simp at q; exact Ab.om572 q
   have h0:k = 0:=by exact Ab.om573 hk h1
   subst h0
   obtain ⟨a⟩:=y
   dsimp only at h1 hk ⊢
   congr 1
   apply Array.ext
   ·simpa using h1
   ·intro i hi hi2
    have:i = 0:=by simp at hi2; exact Ab.om574 hi2
    subst this
    rfl
  ·simp [hk]
 ·rw [if_neg hk,Array.getElem?_eq_none (by exact Ab.om31 h hk)]
  split
  ·rename _=>q
   have h1:y.cps.size = 0:=by simp at q; exact Ab.om575 h hk q
   obtain ⟨a⟩:=y
   congr 1
   exact Array.eq_empty_of_size_eq_zero h1
  ·simp
end Mine
end
theorem kw1:True:=by
 k_with_none
 (k_with "k_all" => first | assumption | exact Mine.B0y (by assumption) | exact Mine.B0y (And.right (by assumption)))
 (k_with "k_room" => ((try simp only [depth_under_make,depth_under_kw,depth_in1,depth_deeper,depth_caller,Mine.C0w]); (first | exact Ab.rm2 (by assumption) rfl | exact Ab.rm1 (by assumption) rfl | exact Ab.rm0 (by assumption) | omega)))
 (k_with "k_units" => ((try simp only [Around.in1_units,Around.deeper_units,Around.mark_units]); (try dsimp only); k_room))
 (k_with "k_ne" => (first | assumption | (apply Ne.symm; assumption)))
 (k_with ".pyIter ref" => refine Mine.Halt.mk ?_)
 (k_with ".pyIter str" => refine Mine.Halt.mk ?_)
 (k_with ".call builtin:list.pop" => refine Mine.Halt.mk ?_)
 (k_with ".eval ListComp" => refine Mine.Halt.mk ?_)
 (k_with ".exec While Compare cons nil" => refine Mine.Halt.mk ?_)
 (k_with ".exec While Name cons nil" => refine Mine.Halt.mk ?_)
 (k_with ".subscriptTail Name Name ref int" => refine Mine.Halt.mk ?_)
 (k_with ".subscriptTail Name Constant ref int" => refine Mine.Halt.mk ?_)
 (k_with ".subscriptTail Name BinOp ref int" => refine Mine.Halt.mk ?_)
 (k_with ".subscriptTail Name UnaryOp ref int" => refine Mine.Halt.mk ?_)
 (k_with ".subscriptTail Name Slice ref ref" => refine Mine.Halt.mk ?_)
 (k_with ".exec For Name Name cons nil" => refine Mine.Halt.mk ?_)
 (k_with ".exec For Name Call cons nil" => refine Mine.Halt.mk ?_)
 (k_with ".exec For Tuple Call cons nil" => refine Mine.Halt.mk ?_)
 (k_with ".exec For Tuple Name cons nil" => refine Mine.Halt.mk ?_)
 (k_with ".exec For Name Subscript cons nil" => refine Mine.Halt.mk ?_)
 (k_with ".exec For Tuple Tuple cons nil" => refine Mine.Halt.mk ?_)
 (k_with ".exec For Name Attribute cons nil" => refine Mine.Halt.mk ?_)
 (k_with ".call type:enumerate" => refine Mine.Halt.mk ?_)
 (k_with ".call ref" => refine Mine.Halt.mk ?_)
 (k_with "fG" => refine (let fG:Prop:=_; (?_:fG)))
 (k_with "oz2" => repeat' (first | (k_unfold; (try dsimp only)) | walk1 | (dsimp only; walk1)))
 exact True.intro
section
namespace Mine
theorem fillit2 (P:Params):hd2.heap_39 P = hd2.heap_39 P ∧ PySem.Challenge.rw_wf0058_02 = PySem.Challenge.rw_wf0058_02:=by
 k_fill
 exact ⟨rfl,rfl⟩
theorem C7i {w:World} {A:Around} {b:Heap} {L:Addr} {s:Shared} {m:Str → Option Value} {l:List (Addr × Obj)} {y:Str} {ty:Tok} {Q:Value → Shared → Prop}
 (C:Cal w b L 5 A) (F:Fr b L s.heap m) (D:Led b L s.heap l) (hsz:y.cps.size ≤ 100000)
 (h:∀ s' (G:Nat) gs,s'.heap.IsGen G s.gens.size → Fr b L s'.heap m → Led b L s'.heap l → s.heap.objs.size < G → s'.gens = s.gens.push gs → gs.bare = true → s'.drawn = s.drawn → s'.os = s.os →
  (∀ s'',s''.heap = s'.heap →
   gs.Goes (model Pr w) A.in1 (RG [s.heap.objs.size,G + 2,G + 1]) (YG b [s.heap.objs.size,G + 2,G + 1] (B0f 0 false y.cps.toList)) (B0f 0 false y.cps.toList).length (.send .none) s'') → Q (.ref G) s') :
 wpAny (model Pr w) A (call (.ref 63) [.str y ty]) Q Nev s:=by
 obtain ⟨A₀,base,env,outer,lo,mean,mg,mb,dp,gd,un,B,hf,hke,T,hroom,hunits,X⟩:=C
 have N:=D.n
 refine wpAny_call ?_
 refine codeAny_call_generator (o:=_) (fd:=_) ?k1 (F.keep _ _ (X _ _ (by k_is))) rfl rfl rfl rfl (codeRec_of (X.keeps F.keep) (by k_is)) ?_
 case k1=>show dp < recursionLimit; exact Ab.om8 hroom
 refine BindsTo.of_eq (binds:=[(Str.ofString "addr",Value.str y ty)]) rfl _ _ _ _ ?_
 refine wpAny_newFunctionEnv (by decide) (locs rfl) (fun h₁ hns hsb=>?_) rfl
 have hkp:∀ a o,s.heap.get? a = some o → h₁.get? a = some o:=fun a o e=>(hsb.2 a (Nat.ne_of_lt (Heap.lt_size e))).trans (Heap.get?_push_of_some _ e)
 have hz:h₁.objs.size = s.heap.objs.size + 1:=hsb.1.trans (Heap.size_push ..)
 have hbL:b.objs.size ≤ s.heap.objs.size:=Nat.le_trans F.above (Nat.le_of_lt F.ns.lt)
 refine ⟨(T.nolimit.keeps F.keep).keeps hkp,?_⟩
 refine h _ h₁.objs.size _ ⟨_,_,_,Heap.get?_push_size _ rfl,rfl,rfl,rfl⟩ ?_ ?_ (by exact Ab.om301 hz) rfl rfl rfl rfl ?_
 ·exact (⟨F.ns.at' fun o e=>hkp _ o e,fun a o e=>hkp a o (F.keep a o e),F.above⟩:Fr b L h₁ m).push _
 ·exact (D.keep fun p hp=>hkp _ _ (D.n p hp).1).push _
 intro s'' hheap
 have hz'':s''.heap.objs.size = h₁.objs.size + 1:=by rw [hheap]; exact Heap.size_push ..
 have hb'':∀ a o,b.get? a = some o → s''.heap.get? a = some o:=fun a o e=>by rw [hheap]; exact Heap.get?_push_of_some _ (hkp a o (F.keep a o e))
 have F0:Fr b s.heap.objs.size s''.heap (fun x=>[(Str.ofString "addr",Value.str y ty)].reverse.lookup x):=by
  refine ⟨?_,hb'',hbL⟩
  refine Ab.x3a2 hns fun o es ep e1 e2=>?_
  exact ⟨o,es,ep,by rw [hheap]; exact Heap.get?_push_of_some _ e1,e2⟩
 refine ⟨rfl,?_⟩
 refine seg_func ?_
 have N0:News b s.heap.objs.size s''.heap (B5c b s.heap.objs.size s''.heap):=B4c
 clear N h
 change Seg _ _ _ _ _ _ (Code.func _ (envOf (Str.ofString "_iter_escaped_chars") _ s.heap.objs.size 63 (Value.ref 62))) (Sem.wrap _ _ _ _ (execs _ (envOf (Str.ofString "_iter_escaped_chars") _ s.heap.objs.size 63 (Value.ref 62)))) [] _
 have hzz:s''.heap.objs.size = h₁.objs.size + 1:=hz''
 refine B7q ?_
 walk1
 walk1
 refine wpAny_storeName_local rfl F0.ns (fun h2 hn2 hs2=>?_) rfl
 refine ⟨rfl,?_⟩
 have F2:=F0.set hn2 hs2
 have k2:∀ a o,a ≠ s.heap.objs.size → s''.heap.get? a = some o → h2.get? a = some o:=fun a o hne e=>(hs2.2 a hne).trans e
 have z2:=hs2.1
 clear F0 hn2 hs2 N0
 refine B7q ?_
 have N0:News b s.heap.objs.size h2 []:=News.nil
 walk1
 walk1
 refine wpAny_storeName_local rfl F2.ns (fun h3 hn3 hs3=>?_) rfl
 refine ⟨rfl,?_⟩
 have F3:=F2.set hn3 hs3
 have k3:∀ a o,a ≠ s.heap.objs.size → s''.heap.get? a = some o → h3.get? a = some o:=fun a o hne e=>(hs3.2 a hne).trans (k2 a o hne e)
 have z3:h3.objs.size = h₁.objs.size + 1:=(hs3.1.trans z2).trans hzz
 clear hn3 hs3 F2 k2 z2 N0
 have N0:News b s.heap.objs.size h3 []:=News.nil
 refine seg_execs_cons (D7w ?_ (fun _=>rfl))
 k_extra "oz2"
 refine Halt.out ?_
 refine call_enumerate_str fun h4 hE hS hz4 hk4=>?_
 k_extra "oz2"
 refine wpAny_pyIter_enum hE ?_
 intro p
 dsimp only at hE hS hz4 hk4 ⊢
 rw [z3] at hE hS ⊢
 have F4:Fr b s.heap.objs.size h4 _:=⟨F3.ns.at' fun o e=>hk4 _ o e,fun a o e=>hk4 a o (F3.keep a o e),F3.above⟩
 generalize hL':s.heap.objs.size = L' at *
 generalize hIt:h₁.objs.size + 1 = itA at *
 generalize hOwn:[L',h₁.objs.size + 2,itA] = own at *
 have hLo:L' ∈ own:=by rw [← hOwn]; exact .head _
 have hEo:itA + 1 ∈ own:=by rw [← hOwn,← hIt]; exact .tail _ (.head _)
 have hIo:itA ∈ own:=by rw [← hOwn]; exact .tail _ (.tail _ (.head _))
 have hown:∀ a ∈ own,a = L' ∨ a = itA + 1 ∨ a = itA:=by
  intro a ha
  rw [← hOwn,← hIt] at ha
  rcases List.mem_cons.mp ha with e | ha
  ·exact .inl e
  ·rcases List.mem_cons.mp ha with e | ha
   ·exact .inr (.inl (by rw [e,← hIt]))
   ·exact .inr (.inr (by rw [List.mem_singleton.mp ha,hIt]))
 have hLi:L' ≠ itA:=by rw [← hIt,← hL',hz]; intro e; exact Ab.om302 hL' e
 have hLe:L' ≠ itA + 1:=by rw [← hIt,← hL',hz]; intro e; exact Ab.om303 hL' e
 have hbI:b.get? itA = none:=Heap.get?_none_of_le (by rw [← hIt,hz]; exact Nat.le_trans hbL (by rw [← hL']; exact Ab.om304))
 have hbE:b.get? (itA + 1) = none:=Heap.get?_none_of_le (by rw [← hIt,hz]; exact Nat.le_trans hbL (by rw [← hL']; omega))
 revert p
 refine D0r (n:=y.cps.size) (i:=0) (e:=false) (fun i e=>(B0f i e (y.cps.toList.drop i)).length)
  (fun i e s₀ s=>KeptG own s₀ s ∧ (∃ m t1,Fr b L' s.heap m ∧ m "escape" = some (.bool e) ∧ m "pos" = some (.int ((i - 1:Nat):Int) t1)) ∧ (∃ old,IsEnum s.heap (itA + 1) itA i old) ∧
   s.heap.IsStrIter itA (strIterType y) y ty i ∧ ∃ pre,B0f 0 false y.cps.toList = pre ++ B0f i e (y.cps.toList.drop i)) rfl (Nat.zero_le _)
  ⟨⟨fun a o ha e=>hk4 a o (k3 a o (fun q=>ha (q ▸ hLo)) e),rfl,rfl,rfl⟩,⟨_,_,F4,rfl,rfl⟩,⟨_,hE⟩,hS,[],rfl⟩ ?_
 ·rintro i e s₀ s1 hi ⟨hkp1,⟨m1,t1,F1,hm1,hm2⟩,⟨old,hE1⟩,hS1,pre,hpre⟩ IH p1
  clear F3 F4 N0 hE hS hns hsb k3 z3 hz4 hk4 hkp hheap
  have hlen:y.cps.toList.length = y.cps.size:=Array.length_toList
  by_cases hlt:i < y.cps.size
  ·refine B6r ?_
   refine (WalksT.enumerateD (B7o rfl itA y ty) (itA + 1) (Nat.succ_ne_self _) (by simp) (.head _)).item i _ _ _ hlt ⟨⟨old,hE1⟩,hS1⟩ fun T1 vals h2 tk2 hP hlT hTup hMid hk2=>?_
   obtain ⟨t,x,⟨c,u,hc,rfl⟩,rfl⟩:=hP
   dsimp only
   refine (WalksT.enumerateD (B7o rfl itA y ty) (itA + 1) (Nat.succ_ne_self _) (by simp) (.head _)).go _ _ _ i T1 _ _ _ ?hm ?_
   case hm=>exact hMid
   intro h3 hst3 hk3
   have hTn:T1 ∉ [itA + 1,itA]:=by simp only [List.mem_cons,List.not_mem_nil,or_false,not_or]; exact hMid.2.2
   have hTup3:=hTup.at fun o e=>hk3 T1 o hTn e
   refine wpAny_assign_Tuple rfl hTup3 rfl rfl fun h4 hx4=>?_
   dsimp only at hx4
   have kp4:∀ a o,h3.get? a = some o → h4.get? a = some o:=fun a o e=>hx4 a o (Nat.ne_of_lt (Heap.lt_size e)) e
   have hLn:L' ∉ [itA + 1,itA]:=by simp only [List.mem_cons,List.not_mem_nil,or_false,not_or]; exact ⟨hLe,hLi⟩
   have hbn:∀ a o,b.get? a = some o → a ∉ [itA + 1,itA]:=fun a o e hm=>by
    rcases List.mem_cons.mp hm with q | q
    ·rw [q,hbE] at e; cases e
    ·rw [List.mem_singleton.mp q,hbI] at e; cases e
   have kp:∀ a o,a ∉ [itA + 1,itA] → s1.heap.get? a = some o → h4.get? a = some o:=fun a o hn e=>kp4 a o (hk3 a o hn (hk2 a o hn e))
   have F4:Fr b L' h4 m1:=⟨F1.ns.at' fun o e=>kp _ o hLn e,fun a o e=>kp a o (hbn a o e) (F1.keep a o e),F1.above⟩
   have k04:∀ a o,a ∉ own → s₀.heap.get? a = some o → h4.get? a = some o:=fun a o hn e=>kp a o (fun hm=>hn (by
    rcases List.mem_cons.mp hm with q | q
    ·rw [q]; exact hEo
    ·rw [List.mem_singleton.mp q]; exact hIo)) (hkp1.heap a o hn e)
   obtain ⟨⟨old3,hE3⟩,hS3⟩:=hst3
   have hE4:IsEnum h4 (itA + 1) itA ((i + 1:Nat):Int) old3:=kp4 _ _ hE3
   have hS4:h4.IsStrIter itA (strIterType y) y ty (i + 1):=by obtain ⟨o,ho,r⟩:=hS3; exact ⟨o,kp4 _ _ ho,r⟩
   have N4:News b L' h4 (B5c b L' h4):=B4c
   replace F4:=pin F4 (x := "escape") hm1
   clear hk2 hk3 hx4 hTup hTup3 hTn hMid hE1 hS1 hE3 hS3 kp kp4 F1 hm1
   have hds:y.cps.toList.drop i = c :: y.cps.toList.drop (i + 1):=by
    have:y.cps.toList[i]? = some c:=by simpa using hc
    exact (List.getElem?_eq_some_iff.mp this).2 ▸ List.drop_eq_getElem_cons _
   rw [hds] at hpre ⊢
   have F4c:=And.intro F4 True.intro
   k_extra "oz2"
   rename _=>N6; revert N6; rename _=>F6; revert F6; rename _=>h6; revert h6; rename _=>h5; intro h6 F6 N6
   have k46:=B2y F4c.1 F6 N6 fun p hp=>hp
   have hE6:IsEnum h6 (itA + 1) itA ((i + 1:Nat):Int) old3:=k46 _ _ (Ne.symm hLe) hE4
   have hS6:h6.IsStrIter itA (strIterType y) y ty (i + 1):=by obtain ⟨o,ho,r⟩:=hS4; exact ⟨o,k46 _ _ (Ne.symm hLi) ho,r⟩
   have k06:∀ a o,a ∉ own → s₀.heap.get? a = some o → h6.get? a = some o:=fun a o hn e=>k46 a o (fun q=>hn (q ▸ hLo)) (k04 a o hn e)
   clear k46 k04 hE4 hS4 N6 F4c
   have N6:News b L' h6 (B5c b L' h6):=B4c
   have hal:∀ a ∈ own,a = L' ∨ ∃ a' o,@LE.le Nat _ a a' ∧ a' ≠ L' ∧ b.get? a' = none ∧ h6.get? a' = some o:=by
    intro a ha
    rcases hown a ha with q | q | q
    ·exact .inl q
    ·exact .inr ⟨itA + 1,_,Nat.le_of_eq q,Ne.symm hLe,hbE,hE6⟩
    ·exact .inr ⟨itA + 1,_,q ▸ Nat.le_succ _,Ne.symm hLe,hbE,hE6⟩
   refine seg_execs_cons (D4c ?_)
   cases e with
   | true =>
    rw [B4u] at hpre ⊢
    rw [List.length_cons]
    have F6c:=And.intro F6 True.intro
    k_extra "oz2"
    rw [if_pos rfl]
    refine seg_execs_cons (seg_Expr_Yield rfl rfl rfl ?_)
    k_extra "oz2"
    rename _=>hkap; revert hkap; rename _=>kap; revert kap; rename _=>l7; revert l7; rename _=>N7; revert N7; rename _=>F7; revert F7; rename _=>h7; revert h7; rename _=>D'; revert D'; rename _=>z1; revert z1; rename _=>kk; revert kk; rename _=>t'; intro kk z1 D' h7 F7 N7 l7 kap hkap
    have k67:=B2y F6c.1 F7 N7 fun p hp=>.tail _ hp
    refine YG.of (h6:=h6) (L:=L') (l:=B5c b L' h6) (x:=((i:Int),⟨#[92,c]⟩)) (t1:=t) (t2:=t') hpre hLo F7.keep k06 k67 N7 l7 rfl hal hkp1.gens hkp1.drawn hkp1.os ?_
    intro s2 e1 e2
    refine hkap .none s2 ?_
    have hE7:IsEnum s2.heap (itA + 1) itA ((i + 1:Nat):Int) old3:=e1 _ hEo _ (k67 _ _ (Ne.symm hLe) hE6)
    have hS7:s2.heap.IsStrIter itA (strIterType y) y ty (i + 1):=by obtain ⟨o,ho,r⟩:=hS6; exact ⟨o,e1 _ hIo _ (k67 _ _ (Ne.symm hLi) ho),r⟩
    have F8:=Fr.same F7 (e1 _ hLo) e2
    have N8:News b L' s2.heap (B5c b L' s2.heap):=B4c
    have F8c:=And.intro F8 True.intro
    clear hkap F7 N7 F6c k67
    show Seg _ _ _ _ _ _ _ (Sem.wrap _ _ _ _ _) _ _
    refine B7q ?_
    k_extra "oz2"
    rename _=>N9; revert N9; rename _=>F9; revert F9; rename _=>h9; intro F9 N9
    have k89:=B2y F8c.1 F9 N9 fun p hp=>hp
    refine seg_execs_nil (seg_execs_nil (seg_again rfl ?_))
    refine IH false s2 _ hlt ?_ p1
    refine ⟨⟨fun a o ha e=>k89 a o (fun q=>ha (q ▸ hLo)) e,rfl,rfl,rfl⟩,⟨_,_,F9,rfl,rfl⟩,⟨_,k89 _ _ (Ne.symm hLe) hE7⟩,?_,pre ++ [((i:Int),⟨#[92,c]⟩)],by rw [hpre]; simp⟩
    refine Ab.B0o hS7 fun o ho r=>?_; exact ⟨o,k89 _ _ (Ne.symm hLi) ho,r⟩
   | false =>
    k_extra "oz2"
    rw [if_neg Bool.false_ne_true]
    refine seg_execs_cons (D4c ?_)
    have F6c:=And.intro F6 True.intro
    k_extra "oz2"
    rw [B2b c 92 _ (by decide)]
    by_cases hc92:c = 92
    ·subst hc92
     rw [B7b] at hpre ⊢
     rw [decide_eq_true rfl,if_pos rfl]
     refine B7q ?_
     k_extra "oz2"
     rename _=>N9; revert N9; rename _=>F9; revert F9; rename _=>h9; intro F9 N9
     have k89:=B2y F6c.1 F9 N9 fun p hp=>hp
     refine seg_execs_nil (seg_execs_nil (seg_again rfl ?_))
     refine IH true s₀ _ hlt ?_ p1
     refine ⟨⟨fun a o ha e=>k89 a o (fun q=>ha (q ▸ hLo)) (k06 a o ha e),hkp1.gens,hkp1.drawn,hkp1.os⟩,⟨_,_,F9,rfl,rfl⟩,⟨_,k89 _ _ (Ne.symm hLe) hE6⟩,?_,pre,hpre⟩
     refine Ab.B0o hS6 fun o ho r=>?_; exact ⟨o,k89 _ _ (Ne.symm hLi) ho,r⟩
    ·rw [B0t hc92] at hpre ⊢
     rw [List.length_cons,decide_eq_false hc92,if_neg Bool.false_ne_true]
     refine seg_execs_cons (seg_Expr_Yield rfl rfl rfl ?_)
     k_extra "oz2"
     rename _=>hkap; revert hkap; rename _=>kap; revert kap; rename _=>l7; revert l7; rename _=>N7; revert N7; rename _=>F7; revert F7; rename _=>h7; revert h7; rename _=>D'; intro h7 F7 N7 l7 kap hkap
     have k67:=B2y F6c.1 F7 N7 fun p hp=>.tail _ hp
     refine YG.of (h6:=h6) (L:=L') (l:=B5c b L' h6) (x:=((i:Int),⟨#[c]⟩)) (t1:=t) (t2:=u) hpre hLo F7.keep k06 k67 N7 l7 rfl hal hkp1.gens hkp1.drawn hkp1.os ?_
     intro s2 e1 e2
     refine hkap .none s2 ?_
     refine seg_execs_nil (seg_execs_nil (seg_again rfl ?_))
     refine IH false s2 _ hlt ?_ p1
     refine ⟨KeptG.refl,⟨_,_,Fr.same F7 (e1 _ hLo) e2,rfl,rfl⟩,⟨_,e1 _ hEo _ (k67 _ _ (Ne.symm hLe) hE6)⟩,?_,pre ++ [((i:Int),⟨#[c]⟩)],by rw [hpre]; simp⟩
     refine Ab.B0o hS6 fun o ho r=>?_; exact ⟨o,e1 _ hIo _ (k67 _ _ (Ne.symm hLi) ho),r⟩
  ·have hin:i = y.cps.size:=by exact Ab.om306 hi hlen hlt
   have hds:y.cps.toList.drop i = []:=List.drop_eq_nil_of_le (by exact Ab.om307 hi hlen hlt)
   rw [hds] at hpre ⊢
   refine B6r ?_
   refine wpAny_pyNext_enum_endD (B7o rfl itA y ty) hE1 (hin ▸ hS1) ?_
   intro h2 hx2
   dsimp only
   have k12:∀ a o,a ∉ own → s₀.heap.get? a = some o → h2.get? a = some o:=fun a o hn e=>hx2 a o (fun q=>hn (q ▸ hIo)) (hkp1.heap a o hn e)
   have F2:Fr b L' h2 m1:=⟨F1.ns.at' fun o e=>hx2 _ o hLi e,fun a o e=>hx2 a o (fun q=>by rw [q,hbI] at e; cases e) (F1.keep a o e),F1.above⟩
   have hE2:IsEnum h2 (itA + 1) itA (i:Int) old:=hx2 _ _ (Nat.succ_ne_self _) hE1
   replace F2:=pin (pin F2 (x := "pos") hm2) (x := "escape") hm1
   have N2:News b L' h2 (B5c b L' h2):=B4c
   clear hE1 hS1 F1 hx2
   refine B9g ?_
   refine seg_execs_cons (D4c ?_)
   have F2c:=And.intro F2 True.intro
   k_extra "oz2"
   cases e with
   | true =>
    rw [if_pos rfl]
    refine seg_execs_cons (seg_Expr_Yield rfl rfl rfl ?_)
    have hal:∀ a ∈ own,a = L' ∨ ∃ a' o,@LE.le Nat _ a a' ∧ a' ≠ L' ∧ b.get? a' = none ∧ h2.get? a' = some o:=by
     intro a ha
     rcases hown a ha with q | q | q
     ·exact .inl q
     ·exact .inr ⟨itA + 1,_,Nat.le_of_eq q,Ne.symm hLe,hbE,hE2⟩
     ·exact .inr ⟨itA + 1,_,q ▸ Nat.le_succ _,Ne.symm hLe,hbE,hE2⟩
    k_extra "oz2"
    rename _=>hkap; revert hkap; rename _=>kap; revert kap; rename _=>l7; revert l7; rename _=>N7; revert N7; rename _=>F7; revert F7; rename _=>h7; revert h7; rename _=>D'; intro h7 F7 N7 l7 kap hkap
    have k67:=B2y F2c.1 F7 N7 fun p hp=>.tail _ hp
    have e92:Str.ofString "\\" = ⟨#[92]⟩:=by decide
    rw [e92] at N7
    refine YG.of (h6:=h2) (L:=L') (l:=B5c b L' h2) (x:=(((i - 1:Nat):Int),⟨#[92]⟩)) (rest:=[]) (t1:=t1) (t2:=s1.toks) hpre hLo F7.keep k12 k67 N7 l7 rfl hal hkp1.gens hkp1.drawn hkp1.os ?_
    intro s2 e1 e2
    refine hkap .none s2 ?_
    refine seg_execs_nil (seg_execs_nil ?_)
    exact seg_end (.ok (.ret .none)) ⟨rfl,rfl,KeptG.refl⟩
   | false =>
    rw [if_neg Bool.false_ne_true]
    refine seg_execs_nil (seg_execs_nil ?_)
    exact seg_end (.ok (.ret .none)) ⟨rfl,rfl,k12,hkp1.gens,hkp1.drawn,hkp1.os⟩
theorem C6k {S G L:Nat} (h1:L < S) (h2:S < G):L ∉ [S,G + 2,G + 1] ∧ [S,G + 2,G + 1].Nodup ∧ G ∉ [S,G + 2,G + 1] ∧ G ≠ L ∧ (∀ p,p < S → p ∉ G :: [S,G + 2,G + 1]) ∧ ∀ a ∈ [S,G + 2,G + 1],L < a:=by
 refine ⟨?_,?_,?_,by exact Ab.om308 h1 h2,fun p hp=>?_,fun a ha=>?_⟩
 all_goals simp only [List.nodup_cons,List.mem_cons,List.not_mem_nil,or_false,not_or,not_false_eq_true,List.nodup_nil,and_true] at *
 all_goals (first | exact Ab.om309 h1 h2 | exact Ab.om310 h2 | exact Ab.om311 h2 | exact Ab.om312 h2 hp | exact Ab.om313 h1 h2 ha | omega)
theorem C2y {w:World} {A:Around} {env:Env} {b:Heap} {s:Shared} {m:Str → Option Value} {ex Rst:List (Addr × Obj)} {y:Str} {ty:Tok} {Q:Flow → Shared → Prop} {body:List Stmt} {xi xc:Str} {pk pv pt:Pos} {x1:Nat}
 (C:Cal w b env.locals 5 A) (F:Fr b env.locals s.heap m) (D:Led b env.locals s.heap (ex ++ Rst)) (hsz:y.cps.size ≤ 100000)
 (hxi:env.kindOf xi = some .local) (hxc:env.kindOf xc = some .local) (hp:(env.scope.kind == .class || (env.scope.kind == .module && env.locals != env.globals)) = false)
 (J:Nat → (Str → Option Value) → List (Addr × Obj) → Prop) (h0:J 0 m ex) (hJa:∀ i m' ex',J i m' ex' → ex'.map (·.1) = ex.map (·.1))
 (step:∀ i x t1 t2 m₁ ex₁ gn h₁ tk T,(B0f 0 false y.cps.toList)[i]? = some x → J i m₁ ex₁ → (AllBare s.gens → AllBare gn) → (∀ p ∈ Rst,p ∈ T) →
   Fr b env.locals h₁ (fun y=>if y = xc then some (.str x.2 t2) else if y = xi then some (.int x.1 t1) else m₁ y) → Led b env.locals h₁ (ex₁ ++ T) →
   wpAny (model Pr w) A (execs body env) (StepEnd b env.locals (fun m' ex' g'=>J (i + 1) m' ex' ∧ g' = gn) T s (C5e Q)) Nev { s with heap:=h₁,toks:=tk,gens:=gn })
 (done:∀ h' tk gn m' ex',J (B0f 0 false y.cps.toList).length m' ex' → (AllBare s.gens → AllBare gn) → Fr b env.locals h' m' → Led b env.locals h' (ex' ++ Rst) → Q .next { s with heap:=h',toks:=tk,gens:=gn }) :
 wpAny (model Pr w) A (call (.ref 63) [.str y ty]) (fun xv s₁=>wpAny (model Pr w) A (pyIter xv) (fun it s₂=>B4n Pr w A env (.Tuple [.Name xi pk,.Name xc pv] x1 pt) body Q it s₂) Nev s₁) Nev s:=by
 have hroom:A.depth < recursionLimit:=by
  obtain ⟨A₀,base,env,outer,lo,mean,mg,mb,dp,gd,un,B,hf,hke,T,hr,hu,X⟩:=C
  show dp < recursionLimit
  exact Ab.om8 hr
 have hh:A.handled = none:=by
  obtain ⟨A₀,base,env,outer,lo,mean,mg,mb,dp,gd,un,B,hf,hke,T,hr,hu,X⟩:=C
  rfl
 have hlim:b.NoLimit:=by
  obtain ⟨A₀,base,env,outer,lo,mean,mg,mb,dp,gd,un,B,hf,hke,T,hr,hu,X⟩:=C
  exact T.nolimit
 refine C7i C F D hsz ?_
 intro s' G gs hG F' D' hGz hgens hbare hdr hos hgo
 have hLs:@LT.lt Nat _ env.locals s.heap.objs.size:=F.ns.lt
 have hbL:@LE.le Nat _ b.objs.size env.locals:=F.above
 refine wpAny_pyIter_gen hG ?_
 have hgs:s'.gens[s.gens.size]? = some gs:=by (refine Ab.eqQ hgens ?_); simp
 refine Ab.x0a6 (C6k hLs hGz) fun f1 f2 f3 f4 f5 f6=>?_
 refine D5n (own:=[s.heap.objs.size,G + 2,G + 1]) (X:=B0f 0 false y.cps.toList) hh hlim hroom hxi hxc hp f1 (fun a ha=>Heap.get?_none_of_le (Nat.le_trans hbL (Nat.le_of_lt (f6 a ha))))
  f2 hG (Heap.get?_none_of_le (Nat.le_trans hbL (Nat.le_of_lt (Nat.lt_trans hLs hGz)))) f3 f4 hgs (hgo _ rfl) F' D' (fun p hp=>f5 _ (D.lt p hp)) J h0 hJa ?_ ?_
 ·intro i x t1 t2 m₁ ex₁ gn h₁ tk T hx hJ hab hT F₁ D₁
  have r:=step i x t1 t2 m₁ ex₁ gn h₁ tk T hx hJ (fun h=>hab (by (refine Ab.eqQ hgens ?_); exact h.push hbare)) hT F₁ D₁
  obtain ⟨sh,sg,sd,st,so⟩:=s'
  dsimp only at hdr hos ⊢
  (refine Ab.eqQ hdr ?_; refine Ab.eqQ hos ?_)
  exact r
 ·intro h' tk gn m' ex' hJ hab F₁ D₁
  have r:=done h' tk gn m' ex' hJ (fun h=>hab (by (refine Ab.eqQ hgens ?_); exact h.push hbare)) F₁ D₁
  obtain ⟨sh,sg,sd,st,so⟩:=s'
  dsimp only at hdr hos ⊢
  (refine Ab.eqQ hdr ?_; refine Ab.eqQ hos ?_)
  exact r
end Mine
end
theorem kw2:True:=by
 (k_with "k_all" => first | assumption | exact Mine.B0y (by assumption) | exact Mine.B0y (And.right (by assumption)) | exact Mine.B0y (And.right (And.right (by assumption))) | exact Mine.B0y (And.right (And.right (And.right (by assumption)))))
 (k_with "oz0" => repeat' (first | (k_unfold; (try dsimp only)) | (refine (?_:_); k_unfold; (try dsimp only)) | ((fail_if_success (fail_if_success k_fold)); first | (with_reducible refine Mine.fB ?_; intro fq) | (with_reducible refine Mine.fS ?_; intro fq)) | walk1 | (dsimp only; walk1)))
 (k_with "open_x" => ((try refine wpAny_call ?_); refine' code_def ?k1 ?k2 ?k3 ?k4 ?k5 ?kA ?kF ?kK ?k6 ?k7 ?k8 ?k9 ?kB ?_ ?c2 ?c3 ?c4 ?c5; (case kA=>exact rfl); (case kF=>assumption); (case kK=>assumption); (case k1=>k_asm); (case k2=>k_asm); (case k3=>k_asm); (case k4=>k_asm); (case k5=>k_asm); (case k6=>k_is); (case k7=>k_is); (case k8=>k_room); (case k9=>first | exact BindsTo.of_eq rfl | exact binds_K (by k_in) rfl (by k_is) rfl rfl rfl | fail "m_enter: no rule for these arguments"); (case c5=>decide); (case kB=>exact locs rfl); (case c2=>exact rfl); (case c3=>exact rfl); (case c4=>exact rfl); k_whole))
 exact True.intro
section
namespace Mine
noncomputable def B0l (y:Str) (st:Int × Option Int × List Str) (x:Int × Str):Int × Option Int × List Str :=
 if x.2 == Str.ofString "\"" then (match st.2.1 with
  | none=>(st.1,some x.1,st.2.2)
  | some o=>(x.1 + 1,none,if st.1 = o then st.2.2 else st.2.2 ++ [Txt.slice y (some st.1) (some o)]))
 else st
noncomputable def B1k (y:Str):Int × Option Int × List Str:=(B0f 0 false y.cps.toList).foldl (B0l y) (0,none,[])
noncomputable def B1v (y:Str):Str :=
 if (Builtin.Str.occurrences y (Str.ofString "\"") 0 y.length 1).isEmpty then y
 else Txt.join (Str.ofString "") (if (B1k y).1 < (y.length:Int) then (B1k y).2.2 ++ [Txt.slice y (some (B1k y).1) none] else (B1k y).2.2)
theorem B2a:∀ (l:List Nat) (i:Nat) (e:Bool),(B0f i e l).length ≤ l.length + 1
 | [],i,e=>by cases e; exact Nat.zero_le _; exact Nat.le_refl _
 | c :: r,i,e=>by
  cases e
  ·by_cases h:c = 92
   ·subst h; rw [B7b]; have:=B2a r (i + 1) true; simp; omega
   ·rw [B0t h]; have:=B2a r (i + 1) false; simp; omega
  ·rw [B4u]; have:=B2a r (i + 1) false; simp; omega
theorem B6z {α σ:Type} {f:σ → α → σ} {l:List α} {i:Nat} {x:α} {z st:σ} (h:l[i]? = some x) (e:st = (l.take i).foldl f z):(l.take (i + 1)).foldl f z = f st x:=by
 subst e
 rw [List.take_add_one,h]
 simp
theorem D1u {l:List Str} {B:Nat} (h:∀ r ∈ l,r.length ≤ B):(l.map (·.length)).sum ≤ l.length * B:=by
 induction l with
 | nil=>simp
 | cons a r ih =>
  have h1:=h a (.head _)
  have h2:=ih fun x hx=>h x (.tail _ hx)
  simp only [List.map_cons,List.sum_cons,List.length_cons,Nat.add_mul,Nat.one_mul]
  omega
noncomputable def SInv (y:Str) (ty:Tok) (rA:Addr) (i:Nat) (m:Str → Option Value) (ex:List (Addr × Obj)):Prop:=∃ st:Int × Option Int × List Str,∃ k t1 t2 vs,st = ((B0f 0 false y.cps.toList).take i).foldl (B0l y) (0,none,[]) ∧ ex = [(rA,listOf (List.toArray vs) k)] ∧ StrsAre vs st.2.2 ∧ (∀ r ∈ st.2.2,r.length ≤ 1000) ∧ vs.length ≤ i ∧
   m "addr" = some (.str y ty) ∧ m "result" = some (.ref rA) ∧
   m "start" = some (.int st.1 t1) ∧ m "open_pos" = some (match st.2.1 with | none=>Value.none | some o=>.int o t2)
theorem C4i {w:World} {A:Around} {b:Heap} {L:Addr} {s:Shared} {m:Str → Option Value} {l:List (Addr × Obj)} {y:Str} {ty:Tok} {Q:Value → Shared → Prop}
 (C:Cal w b L 7 A) (F:Fr b L s.heap m) (D:Led b L s.heap l) (hsz:y.cps.size ≤ 1000)
 (h:∀ h' tk t g,Fr b L h' m → Led b L h' l → (AllBare s.gens → AllBare g) → Q (.str (B1v y) t) { s with heap:=h',toks:=tk,gens:=g }) :
 wpAny (model Pr w) A (call (.ref 70) [.str y ty]) Q Nev s:=by
 obtain ⟨A₀,base,env,outer,lo,mean,mg,mb,dp,gd,un,B,hf,hke,T,hroom,hunits,X⟩:=C
 have N:=D.n
 k_extra "open_x"
 intro g' L' h' FG' F' N' B' X' T'
 refine wpAny_mono (E:=Nev) ?_ Mine.idE Mine.B6o
 obtain ⟨m0,F'⟩:=B3k F' "addr" rfl
 k_extra "oz0"
 ·rename _=>z1; revert z1; rename _=>z2; revert z2; rename _=>N1; revert N1; rename _=>F1; revert F1; revert fq; revert tk; rename _=>hq; revert hq; rename _=>tk; intro hq tk fq F1 N1 z2 z1
  have e:B1v y = y:=if_pos hq
  have hh:=h _ tk ty _ F1 ⟨N1,D.nd⟩ id
  rw [e] at hh
  exact hh
 revert fq; revert tk; rename _=>N1; revert N1; rename _=>F1; revert F1; rename _=>h4; revert h4; rename _=>l1; revert l1; rename _=>h3; revert h3; rename _=>rA; revert rA; rename _=>z1; revert z1; rename _=>z2; revert z2; rename _=>z3; revert z3; rename _=>z4; revert z4; rename _=>z5; revert z5; rename _=>z6; revert z6; rename _=>z7; revert z7; rename _=>z8; revert z8; rename _=>hq; intro z8 z7 z6 z5 z4 z3 z2 z1 rA h3 l1 h4 F1 N1 tk fq
 have D1:Led g' L' h4 ([(rA,listOf #[] 0)] ++ l):=⟨N1,B0i (by k_all) D.nd⟩
 refine Halt.out ?_; refine B4o ?_ (fun _=>rfl)
 k_extra "oz0"
 refine Halt.out ?_
 have hX:(B0f 0 false y.cps.toList).length ≤ 1001:=by have:=B2a y.cps.toList 0 false; simp at this; omega
 refine C2y (ex:=[(rA,listOf #[] 0)]) (Rst:=l) (Cal.mk' B' X' T' rfl rfl (by k_room) (by k_units) rfl) F1 D1 (by omega) rfl rfl rfl
  (SInv y ty rA) ⟨_,0,_,0,[],rfl,rfl,.nil,(fun _ h=>nomatch h),Nat.zero_le _,rfl,rfl,rfl,rfl⟩ ?_ ?_ ?_
 ·rintro i m' ex' ⟨_,_,_,_,_,_,rfl,_⟩; rfl
 ·rintro i x t1 t2 m₁ ex₁ gn h₁ tk T hx ⟨st,k,t3,t4,vs,hst,rfl,hvs,hle,hlen,hm1,hm2,hm3,hm4⟩ hab hT F₁ D₁
  have e3:=B6z (f:=B0l y) hx hst
  have hi:i < 1001:=Nat.lt_of_lt_of_le (List.getElem?_eq_some_iff.mp hx).1 hX
  replace F₁:=pin (pin (pin (pin F₁ (x := "addr") hm1) (x := "result") hm2) (x := "start") hm3) (x := "open_pos") hm4
  have N₁:News g' L' h₁ ((rA,listOf vs.toArray k) :: T):=D₁.n
  have hnd:=D₁.nd
  have a1:∀ p ∈ T,p.1 ≠ rA:=B0d D₁.nd
  clear F1 N1 D1
  obtain ⟨st1,st2,st3⟩:=st
  dsimp only at hvs hle
  refine opq fun K hK=>?_
  cases st2 with
  | none =>
   dsimp only at F₁
   k_extra "oz0"
   ·revert tk; rename _=>N9; revert N9; rename _=>F9; revert F9; rename _=>h9; revert h9; revert fq; rename _=>z1; revert z1; rename _=>z2; revert z2; rename _=>hq; intro z2 z1 fq h9 F9 N9 tk
    simp only [B0l,hq,if_true] at e3
    exact hK _ _ (StepEnd.next (ex':=[(rA,listOf vs.toArray k)]) F9 ⟨N9,hnd⟩ ⟨⟨_,k,_,t1,vs,e3.symm,rfl,hvs,hle,by omega,rfl,rfl,rfl,rfl⟩,rfl⟩ rfl rfl)
   ·revert tk; rename _=>hq; intro tk
    simp only [B0l,hq,Bool.false_eq_true,if_false] at e3
    exact hK _ _ (StepEnd.next (ex':=[(rA,listOf vs.toArray k)]) F₁ ⟨N₁,hnd⟩ ⟨⟨_,k,_,t1,vs,e3.symm,rfl,hvs,hle,by omega,rfl,rfl,rfl,rfl⟩,rfl⟩ rfl rfl)
  | some o =>
   change Fr g' L' h₁ _ at F₁
   dsimp only at F₁
   k_extra "oz0"
   ·revert tk; rename _=>N9; revert N9; rename _=>F9; revert F9; rename _=>h9; revert h9; revert fq; rename _=>z1; revert z1; rename _=>z2; revert z2; rename _=>z3; revert z3; rename _=>z4; revert z4; rename _=>hsl; revert hsl; rename _=>k9; revert k9; rename _=>t9; revert t9; rename _=>z5; revert z5; rename _=>z6; revert z6; rename _=>hne; revert hne; rename _=>z7; revert z7; rename _=>z8; revert z8; rename _=>z9; revert z9; rename _=>hq; intro z9 z8 z7 hne z6 z5 t9 k9 hsl z4 z3 z2 z1 fq h9 F9 N9 tk
    simp only [B0l,hq,if_true,if_neg hne] at e3
    rw [List.push_toArray] at N9
    exact hK _ _ (StepEnd.next (ex':=[(rA,listOf (vs ++ [Value.str (Txt.slice y (some st1) (some o)) t9]).toArray (k + 1))]) F9 ⟨N9,hnd⟩ ⟨⟨_,k + 1,_,t1,_,e3.symm,rfl,strsAre_append hvs (.cons _ _ .nil),(fun r hr=>by
     rcases List.mem_append.mp hr with q | q
     ·exact hle r q
     ·rw [List.mem_singleton.mp q]; exact Nat.le_trans hsl hsz),by simp; omega,rfl,rfl,rfl,rfl⟩,rfl⟩ rfl rfl)
   ·revert tk; rename _=>N9; revert N9; rename _=>F9; revert F9; rename _=>h8; revert h8; revert fq; rename _=>z1; revert z1; rename _=>h9; revert h9; rename _=>z2; revert z2; rename _=>hne; revert hne; rename _=>z3; revert z3; rename _=>z4; revert z4; rename _=>z5; revert z5; rename _=>hq; intro z5 z4 z3 hne z2 h9 z1 fq h8 F9 N9 tk
    simp only [B0l,hq,if_true,if_pos hne] at e3
    exact hK _ _ (StepEnd.next (ex':=[(rA,listOf vs.toArray k)]) F9 ⟨N9,hnd⟩ ⟨⟨_,k,_,t1,vs,e3.symm,rfl,hvs,hle,by omega,rfl,rfl,rfl,rfl⟩,rfl⟩ rfl rfl)
   ·revert tk; rename _=>hq; intro tk
    simp only [B0l,hq,Bool.false_eq_true,if_false] at e3
    exact hK _ _ (StepEnd.next (ex':=[(rA,listOf vs.toArray k)]) F₁ ⟨N₁,hnd⟩ ⟨⟨_,k,_,t4,vs,e3.symm,rfl,hvs,hle,by omega,rfl,rfl,rfl,rfl⟩,rfl⟩ rfl rfl)
 ·intro h' tk' gn m' ex' hS hab F' D'
  obtain ⟨st,k,t3,t4,vs,hst,hex,hvs,hle,hlen,hm1,hm2,hm3,hm4⟩:=hS
  subst hex
  rw [List.take_length] at hst
  have hst:st = B1k y:=hst
  obtain ⟨st1,st2,st3⟩:=st
  dsimp only at hvs hle hm3
  replace F':=pin (pin (pin F' (x := "addr") hm1) (x := "result") hm2) (x := "start") hm3
  change Fr g' L' h' _ at F'
  have N₁:News g' L' h' ((rA,listOf vs.toArray k) :: l):=D'.n
  clear F1 N1 D1
  have es:B1v y = Txt.join (Str.ofString "") (if st1 < (y.length:Int) then st3 ++ [Txt.slice y (some st1) none] else st3):=by
   rw [B1v,if_neg (by rw [hq]; decide),← hst]
  have a1:∀ p ∈ l,p.1 ≠ rA:=B0d D'.nd
  have hsz':y.length ≤ 1000:=hsz
  have hlen':vs.length ≤ 1001:=Nat.le_trans hlen hX
  k_extra "oz0"
  ·revert fq; rename _=>N9; revert N9; rename _=>F9; revert F9; rename _=>z1; revert z1; rename _=>hsl; revert hsl; rename _=>z2; revert z2; rename _=>t9; revert t9; rename _=>z3; revert z3; rename _=>z4; revert z4; revert tk; rename _=>hlt; intro tk z4 z3 t9 z2 hsl z1 F9 N9 fq
   rw [List.push_toArray] at N9
   rw [if_pos hlt] at es
   have hs9:=strsAre_append hvs (.cons (Txt.slice y (some st1) none) t9 .nil)
   have hl9:(st3 ++ [Txt.slice y (some st1) none]).length ≤ 1002:=by rw [← StrsAre.length hs9]; simp; omega
   have hm9:∀ r ∈ st3 ++ [Txt.slice y (some st1) none],r.length ≤ 1000:=fun r hr=>by
    rcases List.mem_append.mp hr with q | q
    ·exact hle r q
    ·rw [List.mem_singleton.mp q]; exact Nat.le_trans hsl hsz
   refine join_listC (N9.isList (.head _)) (by simpa using hs9) (by decide) (Nat.le_trans (Nat.add_le_add (D1u hm9) (Nat.le_refl _)) (by omega)) fun t' k'=>?_
   rw [← es]
   k_extra "oz0"
   rename _=>z1; revert z1; rename _=>z2; revert z2; rename _=>N8; revert N8; rename _=>F8; intro N8 z2 z1
   exact h _ _ _ _ F8 ⟨fun p hp=>N8 p (.tail _ hp),D.nd⟩ hab
  ·revert fq; revert tk; rename _=>hlt; intro tk fq
   rw [if_neg hlt] at es
   have hl9:st3.length ≤ 1002:=by rw [← StrsAre.length hvs]; omega
   refine join_listC (N₁.isList (.head _)) (by simpa using hvs) (by decide) (Nat.le_trans (Nat.add_le_add (D1u hle) (Nat.le_refl _)) (by omega)) fun t' k'=>?_
   rw [← es]
   k_extra "oz0"
   rename _=>z1; revert z1; rename _=>z2; revert z2; rename _=>N8; revert N8; rename _=>F8; intro N8 z2 z1
   exact h _ _ _ _ F8 ⟨fun p hp=>N8 p (.tail _ hp),D.nd⟩ hab
end Mine
end
theorem kw3:True:=by
 k_with_none
 (k_with "k_all" => first | assumption | exact Mine.B0y (by assumption) | exact Mine.B0y (And.right (by assumption)))
 (k_with "k_room" => ((try simp only [depth_under_make,depth_under_kw,depth_in1,depth_deeper,depth_caller,Mine.C0w]); (first | exact Ab.rm2 (by assumption) rfl | exact Ab.rm1 (by assumption) rfl | exact Ab.rm0 (by assumption) | omega)))
 (k_with "k_units" => ((try simp only [Around.in1_units,Around.deeper_units,Around.mark_units]); (try dsimp only); k_room))
 (k_with "k_ne" => (first | assumption | (apply Ne.symm; assumption)))
 (k_with ".pyIter ref" => refine Mine.Halt.mk ?_)
 (k_with ".pyIter str" => refine Mine.Halt.mk ?_)
 (k_with ".call builtin:list.pop" => refine Mine.Halt.mk ?_)
 (k_with ".eval ListComp" => refine Mine.Halt.mk ?_)
 (k_with ".exec While Compare cons nil" => refine Mine.Halt.mk ?_)
 (k_with ".exec While Name cons nil" => refine Mine.Halt.mk ?_)
 (k_with ".subscriptTail Name Name ref int" => refine Mine.Halt.mk ?_)
 (k_with ".subscriptTail Name Constant ref int" => refine Mine.Halt.mk ?_)
 (k_with ".subscriptTail Name BinOp ref int" => refine Mine.Halt.mk ?_)
 (k_with ".subscriptTail Name UnaryOp ref int" => refine Mine.Halt.mk ?_)
 (k_with ".subscriptTail Name Slice ref ref" => refine Mine.Halt.mk ?_)
 (k_with ".exec For Name Name cons nil" => refine Mine.Halt.mk ?_)
 (k_with ".exec For Name Call cons nil" => refine Mine.Halt.mk ?_)
 (k_with ".exec For Tuple Call cons nil" => refine Mine.Halt.mk ?_)
 (k_with ".exec For Tuple Name cons nil" => refine Mine.Halt.mk ?_)
 (k_with ".exec For Name Subscript cons nil" => refine Mine.Halt.mk ?_)
 (k_with ".exec For Tuple Tuple cons nil" => refine Mine.Halt.mk ?_)
 (k_with ".exec For Name Attribute cons nil" => refine Mine.Halt.mk ?_)
 (k_with ".call type:enumerate" => refine Mine.Halt.mk ?_)
 (k_with ".call ref" => refine Mine.Halt.mk ?_)
 (k_with "fG" => refine (let fG:Prop:=_; (?_:fG)))
 (k_with "oz0" => repeat' (first | (k_unfold; (try dsimp only)) | (refine (?_:_); k_unfold; (try dsimp only)) | ((fail_if_success (fail_if_success k_fold)); first | (with_reducible refine Mine.fB ?_; intro fq) | (with_reducible refine Mine.fS ?_; intro fq)) | walk1 | (dsimp only; walk1)))
 (k_with "open_x" => ((try refine wpAny_call ?_); refine' code_def ?k1 ?k2 ?k3 ?k4 ?k5 ?kA ?kF ?kK ?k6 ?k7 ?k8 ?k9 ?kB ?_ ?c2 ?c3 ?c4 ?c5; (case kA=>exact rfl); (case kF=>assumption); (case kK=>assumption); (case k1=>k_asm); (case k2=>k_asm); (case k3=>k_asm); (case k4=>k_asm); (case k5=>k_asm); (case k6=>k_is); (case k7=>k_is); (case k8=>k_room); (case k9=>first | exact BindsTo.of_eq rfl | exact binds_K (by k_in) rfl (by k_is) rfl rfl rfl | fail "m_enter: no rule for these arguments"); (case c5=>decide); (case kB=>exact locs rfl); (case c2=>exact rfl); (case c3=>exact rfl); (case c4=>exact rfl); k_whole))
 exact True.intro
section
namespace Mine
noncomputable def B1m (st:Option Int) (x:Int × Str):Option Int:=match st with
 | none=>none
 | some n=>if x.2 == Str.ofString "(" then some (n + 1) else if x.2 == Str.ofString ")" then (if n - 1 < 0 then none else some (n - 1)) else some n
noncomputable def B3y (y:Str):Bool:=match (B0f 0 false (B1v y).cps.toList).foldl B1m (some 0) with
 | none=>false
 | some n=>decide (n = 0)
theorem C1i {α σ:Type} {f:Option σ → α → Option σ} (hn:∀ c,f none c = none) {l:List α} {k:Nat} {z:Option σ} (h:(l.take k).foldl f z = none):l.foldl f z = none:=by
 rw [← List.take_append_drop k l,List.foldl_append,h,B7a f hn]
theorem B7g {w:World} {A:Around} {b:Heap} {L:Addr} {s:Shared} {m:Str → Option Value} {l:List (Addr × Obj)} {y:Str} {ty:Tok} {Q:Value → Shared → Prop}
 (C:Cal w b L 9 A) (F:Fr b L s.heap m) (D:Led b L s.heap l) (hsz0:y.cps.size ≤ 1000) (hsz:(B1v y).cps.size ≤ 1000)
 (h:∀ h' tk g,Fr b L h' m → Led b L h' l → (AllBare s.gens → AllBare g) → Q (.bool (B3y y)) { s with heap:=h',toks:=tk,gens:=g }) :
 wpAny (model Pr w) A (call (.ref 77) [.str y ty]) Q Nev s:=by
 obtain ⟨A₀,base,env,outer,lo,mean,mg,mb,dp,gd,un,B,hf,hke,T,hroom,hunits,X⟩:=C
 have N:=D.n
 k_extra "open_x"
 intro g' L' h' FG' F' N' B' X' T'
 refine wpAny_mono (E:=Nev) ?_ Mine.idE Mine.B6o
 refine (let fA:=_; (?_:wpAny _ fA _ _ _ _))
 obtain ⟨m0,F'⟩:=B3k F' "addr" rfl
 refine stq s fun tk=>?_
 k_extra "oz0"
 refine Halt.out ?_
 refine C4i (Cal.mk' B' X' T' rfl rfl (by k_room) (by k_units) rfl) F' ⟨N',D.nd⟩ hsz0 fun h1 tk1 t1 gn F1 D1 hab1=>?_
 have N1:=D1.n
 clear F' N'
 k_extra "oz0"
 revert fq; revert tk; rename _=>N4; revert N4; rename _=>F4; revert F4; rename _=>h4; revert h4; rename _=>z1; revert z1; rename _=>z2; revert z2; rename _=>h3; revert h3; revert hab1; revert D1; revert gn; revert t1; revert tk1; revert h1; rename _=>z3; revert z3; rename _=>tk2; intro z3 h1 tk1 t1 gn D1 hab1 h3 z2 z1 h4 F4 N4 tk fq
 have D4:Led g' L' h4 ([] ++ l):=⟨N4,D.nd⟩
 refine Halt.out ?_; refine stg gn s fun tk4=>?_; refine B4o ?_ (fun _=>rfl)
 k_extra "oz0"
 refine Halt.out ?_
 have hX:(B0f 0 false (B1v y).cps.toList).length ≤ 1001:=by have:=B2a (B1v y).cps.toList 0 false; simp at this; exact Ab.om528 hsz this
 refine C2y (ex:=[]) (Rst:=l) (Cal.mk' B' X' T' rfl rfl (by k_room) (by k_units) rfl) F4 D4 (by exact Ab.om529 hsz) rfl rfl rfl
  (fun i m ex=>∃ n:Int,∃ t1,some n = ((B0f 0 false (B1v y).cps.toList).take i).foldl B1m (some 0) ∧ ex = [] ∧ m "opens" = some (.int n t1) ∧ -1001 ≤ n + i ∧ n ≤ i) ⟨0,_,rfl,rfl,rfl,by exact Ab.om530,by exact Ab.om531⟩ ?_ ?_ ?_
 ·rintro i m' ex' ⟨_,_,_,rfl,_⟩; rfl
 ·intro i x t1 t2 m₁ ex₁ gn2 h₁ tk T hx h9711 hab hT F₁ D₁
  refine Ab.D6v h9711 fun n t3 hst e9113 hm1 hb1 hb2=>?_; subst e9113
  have e3:=B6z (f:=B1m) hx hst
  have hi:i < 1001:=Nat.lt_of_lt_of_le (List.getElem?_eq_some_iff.mp hx).1 hX
  replace F₁:=pin F₁ (x := "opens") hm1
  change Fr g' L' h₁ _ at F₁
  have N₁:News g' L' h₁ T:=D₁.n
  have hnd:=D₁.nd
  clear F4 N4 D4
  refine opq fun K hK=>?_
  k_extra "oz0"
  ·revert tk; rename _=>N9; revert N9; rename _=>F9; revert F9; rename _=>z1; revert z1; revert fq; rename _=>z2; revert z2; rename _=>hq; intro z2 fq z1 F9 N9 tk
   simp only [B1m,hq,if_true] at e3
   exact hK _ _ (StepEnd.next (ex':=[]) F9 ⟨N9,hnd⟩ ⟨⟨_,_,e3.symm,rfl,rfl,by exact Ab.om532 hb1,by exact Ab.om533 hb2⟩,rfl⟩ rfl rfl)
  ·revert fq; revert tk; rename _=>hneg; revert hneg; rename _=>z1; revert z1; rename _=>z2; revert z2; rename _=>N9; revert N9; rename _=>F9; revert F9; rename _=>z3; revert z3; rename _=>z4; revert z4; rename _=>z5; revert z5; rename _=>hq2; revert hq2; rename _=>z6; revert z6; rename _=>z7; revert z7; rename _=>hq; intro z7 z6 hq2 z5 z4 z3 F9 N9 z2 z1 hneg tk fq
   simp only [B1m,hq,hq2,Bool.false_eq_true,if_false,if_true,if_pos hneg] at e3
   have es:B3y y = false:=by
    unfold B3y
    rw [C1i (fun _=>rfl) e3]
   k_extra "oz0"
   refine hK _ _ ?_
   unfold StepEnd
   dsimp only [C5e]
   k_extra "oz0"
   rename _=>z1; revert z1; rename _=>z2; revert z2; rename _=>N8; revert N8; rename _=>F8; intro N8 z2 z1
   rw [← es]
   exact h _ _ _ F8 ⟨fun p hp=>N8 p (hT p hp),D.nd⟩ fun q=>hab (hab1 q)
  ·revert tk; rename _=>hneg; revert hneg; revert fq; rename _=>z1; revert z1; rename _=>N9; revert N9; rename _=>F9; revert F9; rename _=>z2; revert z2; rename _=>z3; revert z3; rename _=>z4; revert z4; rename _=>hq2; revert hq2; rename _=>z5; revert z5; rename _=>z6; revert z6; rename _=>hq; intro z6 z5 hq2 z4 z3 z2 F9 N9 z1 fq hneg tk
   simp only [B1m,hq,hq2,Bool.false_eq_true,if_false,if_true,if_neg hneg] at e3
   exact hK _ _ (StepEnd.next (ex':=[]) F9 ⟨N9,hnd⟩ ⟨⟨_,_,e3.symm,rfl,rfl,by exact Ab.om534 hb1,by exact Ab.om535 hb2⟩,rfl⟩ rfl rfl)
  ·revert tk; rename _=>hq2; revert hq2; revert fq; rename _=>z1; revert z1; rename _=>hq; intro z1 fq hq2 tk
   simp only [B1m,hq,hq2,Bool.false_eq_true,if_false] at e3
   exact hK _ _ (StepEnd.next (ex':=[]) F₁ ⟨N₁,hnd⟩ ⟨⟨_,_,e3.symm,rfl,rfl,by exact Ab.om536 hb1,by exact Ab.om537 hb2⟩,rfl⟩ rfl rfl)
 ·intro h' tk' gn2 m' ex' h975 hab F' D'
  refine Ab.D6v h975 fun n t3 hst e953 hm1 _ _=>?_; subst e953
  rw [List.take_length] at hst
  replace F':=pin F' (x := "opens") hm1
  change Fr g' L' h' _ at F'
  have N₁:News g' L' h' l:=D'.n
  clear F4 N4 D4
  have es:B3y y = decide (n = 0):=by unfold B3y; rw [← hst]
  k_extra "oz0"
  rename _=>z1; revert z1; rename _=>z2; revert z2; rename _=>N8; revert N8; rename _=>F8; intro N8 z2 z1
  have hq:(n == 0) = B3y y:=by rw [es]; rw [Bool.eq_iff_iff]; simp
  rw [hq]
  exact h _ _ _ F8 ⟨N8,D.nd⟩ fun q=>hab (hab1 q)
end Mine
end
theorem kw4:True:=by
 k_with_none
 (k_with "k_all" => first | assumption | exact Mine.B0y (by assumption) | exact Mine.B0y (And.right (by assumption)))
 (k_with "k_room" => ((try simp only [depth_under_make,depth_under_kw,depth_in1,depth_deeper,depth_caller,Mine.C0w]); (first | exact Ab.rm2 (by assumption) rfl | exact Ab.rm1 (by assumption) rfl | exact Ab.rm0 (by assumption) | omega)))
 (k_with "k_units" => ((try simp only [Around.in1_units,Around.deeper_units,Around.mark_units]); (try dsimp only); k_room))
 (k_with "k_ne" => (first | assumption | (apply Ne.symm; assumption)))
 (k_with ".pyIter ref" => refine Mine.Halt.mk ?_)
 (k_with ".pyIter str" => refine Mine.Halt.mk ?_)
 (k_with ".call builtin:list.pop" => refine Mine.Halt.mk ?_)
 (k_with ".eval ListComp" => refine Mine.Halt.mk ?_)
 (k_with ".exec While Compare cons nil" => refine Mine.Halt.mk ?_)
 (k_with ".exec While Name cons nil" => refine Mine.Halt.mk ?_)
 (k_with ".subscriptTail Name Name ref int" => refine Mine.Halt.mk ?_)
 (k_with ".subscriptTail Name Constant ref int" => refine Mine.Halt.mk ?_)
 (k_with ".subscriptTail Name BinOp ref int" => refine Mine.Halt.mk ?_)
 (k_with ".subscriptTail Name UnaryOp ref int" => refine Mine.Halt.mk ?_)
 (k_with ".subscriptTail Name Slice ref ref" => refine Mine.Halt.mk ?_)
 (k_with ".exec For Name Name cons nil" => refine Mine.Halt.mk ?_)
 (k_with ".exec For Name Call cons nil" => refine Mine.Halt.mk ?_)
 (k_with ".exec For Tuple Call cons nil" => refine Mine.Halt.mk ?_)
 (k_with ".exec For Tuple Name cons nil" => refine Mine.Halt.mk ?_)
 (k_with ".exec For Name Subscript cons nil" => refine Mine.Halt.mk ?_)
 (k_with ".exec For Tuple Tuple cons nil" => refine Mine.Halt.mk ?_)
 (k_with ".exec For Name Attribute cons nil" => refine Mine.Halt.mk ?_)
 (k_with ".call type:enumerate" => refine Mine.Halt.mk ?_)
 (k_with ".call ref" => ((fail_if_success (show wpAny _ _ (call (Value.ref 115) _) _ _ _)); refine Mine.Halt.mk ?_))
 (k_with ".callWith ref" => (refine' callWith_F ?k1 ?_; (case k1=>exact FnAt.of (by k_asm) (by k_mem)); k_whole))
 (k_with "fG" => refine (let fG:Prop:=_; (?_:fG)))
 (k_with "oz0" => repeat' (first | (k_unfold; (try dsimp only)) | (refine (?_:_); k_unfold; (try dsimp only)) | ((fail_if_success (fail_if_success k_fold)); first | (with_reducible refine Mine.fB ?_; intro fq) | (with_reducible refine Mine.fS ?_; intro fq)) | walk1 | (dsimp only; walk1)))
 (k_with "open_x" => ((try refine wpAny_call ?_); refine' code_def ?k1 ?k2 ?k3 ?k4 ?k5 ?kA ?kF ?kK ?k6 ?k7 ?k8 ?k9 ?kB ?_ ?c2 ?c3 ?c4 ?c5; (case kA=>exact rfl); (case kF=>assumption); (case kK=>assumption); (case k1=>k_asm); (case k2=>k_asm); (case k3=>k_asm); (case k4=>k_asm); (case k5=>k_asm); (case k6=>k_is); (case k7=>k_is); (case k8=>k_room); (case k9=>first | exact BindsTo.of_eq rfl | exact binds_K (by k_in) rfl (by k_is) rfl rfl rfl | fail "m_enter: no rule for these arguments"); (case c5=>decide); (case kB=>exact locs rfl); (case c2=>exact rfl); (case c3=>exact rfl); (case c4=>exact rfl); k_whole))
 (k_with "oz1" => repeat' (first | (k_unfold; (try dsimp only)) | (refine (?_:_); k_unfold; (try dsimp only)) | ((fail_if_success (fail_if_success k_fold)); with_reducible refine Mine.fB ?_; intro fq) | walk1 | (dsimp only; walk1)))
 (k_with "oz3" => repeat' (first | (k_unfold; (try dsimp only)) | ((fail_if_success (have _:=fdv)); refine (let fdv:FuncData:=_; have fN:News _ _ _ ((_,{ cls:=.type "function",data:=.func fdv }) :: _):=‹News _ _ _ ((_,fnMade _ _ _ _ _ _ _ _ _ _) :: _)›; ?_)) | ((fail_if_success (with_reducible (show wpAny _ _ (call (Value.builtin "len") _) _ _ _))); first | walk1 | (dsimp only; walk1))))
 (k_with "cell_enter" => (refine wpAny_call ?_; refine' code_defC ?k1 ?k2 ?k3 ?k4 ?k5 ?kA ?kF ?kK ?k6 ?k7 ?k8 ?k9 ?kB ?kD ?_ ?c2 ?c3 ?c4; (case kA=>exact rfl); (case kF=>assumption); (case kK=>assumption); (case k1=>k_asm); (case k2=>k_asm); (case k3=>k_asm); (case k4=>k_asm); (case k5=>k_asm); (case k6=>k_is); (case k7=>k_is); (case k8=>k_room); (case k9=>first | exact BindsTo.of_eq rfl | exact binds_K (by k_in) rfl (by k_is) rfl rfl rfl | fail "m_enter: no rule for these arguments"); (case kB=>exact rfl); (case kD=>decide +kernel); (case c2=>exact rfl); (case c3=>exact rfl); (case c4=>exact rfl); k_whole))
 exact True.intro
section
namespace Mine
theorem B9j {w:World} {A:Around} {b:Heap} {L:Addr} {s:Shared} {m:Str → Option Value} {z:LexA} {y:Str} (V:Piece w z y) {k:Nat} {t1:Tok} {pb:List Value} {n:Nat} {pl R:List (Addr × Obj)} {Q:Value → Shared → Prop}
 (C:Cal w b L 9 A) (F:Fr b L s.heap m) (D:Led b L s.heap (z.news w.params (lnOf y k) t1 pb n ++ (pl ++ R))) (hst:V.St k pl) (hk:k ≤ y.cps.size) (hsz:y.cps.size ≤ 1000)
 (h:∀ h' tk t t1 pl',Fr b L h' m → Led b L h' (z.news w.params (lnOf y (stepK y k)) t1 pb n ++ (pl' ++ R)) → V.St (stepK y k) pl' → Q (.str (pieceAt y k) t) { s with heap:=h',toks:=tk }) :
 codeAny (model Pr w) A (.call (.ref 98) ⟨[.ref z.x],[]⟩) (fun r s'=>match r with | .ok (.ret v)=>Q v s' | .ok _=>False | .error e=>Nev e s') s:=by
 obtain ⟨A₀,base,env,outer,lo,mean,mg,mb,dp,gd,un,B,hf,hke,T,hroom,hunits,X⟩:=C
 have N:=D.n
 have hnd:=D.nd
 obtain ⟨x,d,x2,d2,q,q2,f,fd,k1,k2,k3,k4,t3,j1,j2,j3,j4,j5,u1,u3,ws⟩:=z
 simp only [LexA.news,LexA.oLine,LexA.oStrm,ent,List.cons_append,List.nil_append] at N
 dsimp only
 k_extra "open_x"
 intro g' L' h' FG' F' N' B' X' T'
 refine wpAny_mono (E:=Nev) ?_ Mine.idE Mine.B6o
 refine (let fA:=_; (?_:wpAny _ fA _ _ _ _))
 obtain ⟨m0,F'⟩:=B3k F' "self" rfl
 k_extra "oz0"
 refine Halt.out ?_
 have D1:Led g' L' h' ([(q,_),(x,_),(d,_),(x2,_),(d2,_)] ++ ((((f,_) :: pl) ++ R))):=⟨N',hnd⟩
 refine V.ok (Cal.mk' B' X' T' rfl rfl (by k_room) (by k_units) rfl) F' (D1.perm (List.perm_append_comm_assoc _ _ _)) hst hk fun h1 tk1 t' pl' F1 D2 hst'=>?_
 have D3:=D2.perm (List.perm_append_comm_assoc _ _ _)
 have N3:=D3.n
 have hnd3:=D3.nd
 simp only [List.cons_append,List.nil_append] at N3 hnd3
 clear N' F' D1 D2
 have c1:=B0d hnd3 _ (.tail _ (.head _))
 have c2:=B0d (B0b hnd3) _ (.head _)
 have c3:=B0d (B0b (B0b hnd3))
 dsimp only at c1 c2 c3
 have hln:=C7a y k
 k_extra "oz0"
 ·rename _=>z1; revert z1; rename _=>z2; revert z2; rename _=>N8; revert N8; rename _=>F8; revert F8; revert fq; revert tk; rename _=>N9; revert N9; rename _=>F9; revert F9; rename _=>z3; revert z3; rename _=>z4; revert z4; rename _=>z5; revert z5; rename _=>hq; intro z5 z4 z3 F9 N9 tk fq F8 N8 z2 z1
  rw [hq] at hln
  simp only [if_true] at hln
  exact h _ _ t' _ pl' F8 ⟨by rw [hln]; exact N8,hnd3⟩ hst'
 ·rename _=>z1; revert z1; rename _=>z2; revert z2; rename _=>N8; revert N8; rename _=>F8; revert F8; revert fq; revert tk; rename _=>hq; intro tk fq F8 N8 z2 z1
  rw [hq] at hln
  simp only [Bool.false_eq_true,if_false] at hln
  exact h _ _ t' t1 pl' F8 ⟨by rw [hln]; exact N8,hnd3⟩ hst'
theorem B5p {w:World} {A:Around} {b:Heap} {L:Addr} {s:Shared} {m:Str → Option Value} {z:LexA} {y:Str} (V:Piece w z y) {k:Nat} {t1:Tok} {pb:List Value} {n:Nat} {pl R:List (Addr × Obj)} {Q:Value → Shared → Prop}
 (C:Cal w b L 9 A) (F:Fr b L s.heap m) (D:Led b L s.heap (z.news w.params (lnOf y k) t1 pb n ++ (pl ++ R))) (hst:V.St k pl) (hk:k ≤ y.cps.size) (hsz:y.cps.size ≤ 1000)
 (h:∀ h' tk t t1 pl',Fr b L h' m → Led b L h' (z.news w.params (lnOf y (stepK y k)) t1 pb n ++ (pl' ++ R)) → V.St (stepK y k) pl' → Q (.str (pieceAt y k) t) { s with heap:=h',toks:=tk }) :
 wpAny (model Pr w) A (call (.ref 98) [.ref z.x]) Q Nev s:=wpAny_call (B9j V C F D hst hk hsz h)
theorem D5o {w:World} {b:Heap} (X:(hd2.heap_39 w.params).In b):∃ o fd,b.get? 98 = some o ∧ o.data = .func fd:=⟨_,_,X _ _ (by k_is),rfl⟩
end Mine
end
section
namespace Mine
noncomputable def ciO (mq:Addr) (ts:Tok) (e:Bool):Obj:=if e then B4l .none .none true else B4l (.ref mq) (.str (Str.ofString "") ts) false
noncomputable abbrev LexA.live (z:LexA) (P:Params) (I mq:Addr) (ts:Tok) (y:Str) (k:Nat) (e:Bool) (t1:Tok) (n:Nat) (pl R:List (Addr × Obj)):List (Addr × Obj) :=
 z.news P (lnOf y k) t1 [] n ++ (pl ++ ((I,ciO mq ts e) :: (mq,methodObj (.ref 98) (.ref z.x)) :: R))
theorem Cal.in1 {w:World} {A:Around} {b:Heap} {L:Addr} {d:Nat} (C:Cal w b L (d + 1) A):Cal w b L d A.in1:=by
 obtain ⟨A₀,base,env,outer,lo,mean,mg,mb,dp,gd,un,B,h1,h2,T,h3,h4,X⟩:=C
 exact .mk A₀ base env outer lo mean mg mb dp gd (un + 1) B h1 h2 T (Ab.om238 h3) (Ab.om239 h4) X
theorem Cal.hh {w:World} {A:Around} {b:Heap} {L:Addr} {d:Nat} (C:Cal w b L d A):A.handled = none:=by
 cases C
 rfl
theorem Led.set {b h h':Heap} {L I:Addr} {o o':Obj} {l r:List (Addr × Obj)} (D:Led b L h (l ++ (I,o) :: r)) (hI:h'.get? I = some o') (hk:∀ a ob,a ≠ I → h.get? a = some ob → h'.get? a = some ob):Led b L h' (l ++ (I,o') :: r):=by
 have D1:=D.perm (List.perm_middle)
 have hne:=B0d D1.nd
 have D2:Led b L h' ((I,o') :: (l ++ r)):=by
  refine ⟨fun p hp=>?_,B0i hne (B0b D1.nd)⟩
  rcases List.mem_cons.mp hp with rfl | hp
  ·exact ⟨hI,(D1.n (I,o) (.head _)).2⟩
  ·exact ⟨hk _ _ (hne p hp) (D1.n p (.tail _ hp)).1,(D1.n p (.tail _ hp)).2⟩
 exact D2.perm List.perm_middle.symm
theorem Led.sub {b h:Heap} {L:Addr} {l l':List (Addr × Obj)} (D:Led b L h l) (k:l'.Sublist l):Led b L h l':=⟨fun p hp=>D.n p (k.subset hp),(k.map _).nodup D.nd⟩
theorem Led.unlive {b h:Heap} {P:Params} {L I mq:Addr} {z:LexA} {ts:Tok} {y:Str} {k:Nat} {e:Bool} {t1:Tok} {n:Nat} {pl R:List (Addr × Obj)} (D:Led b L h (z.live P I mq ts y k e t1 n pl R)) :
  Led b L h (z.news P (lnOf y k) t1 [] n ++ (pl ++ R)):=D.sub (List.Sublist.append_left (List.Sublist.append_left (.cons _ (.cons _ (List.Sublist.refl _))) _) _)
theorem piece_empty {y:Str} {k:Nat}:(Str.ofString "" = pieceAt y k) ↔ y.cps.size ≤ k:=by
 have e0:Str.ofString "" = ⟨#[]⟩:=by decide
 (refine Ab.eqQ e0 ?_)
 unfold pieceAt
 by_cases h:k < y.cps.size
 ·(refine Ab.eqQ (Array.getElem?_eq_getElem h) ?_)
  constructor
  ·intro q; simp at q
  ·intro q; exact Ab.om240 h q
 ·(refine Ab.eqQ (Array.getElem?_eq_none (by exact Ab.om6 h)) ?_)
  exact ⟨fun Z=>by exact Ab.om6 h,fun Z=>rfl⟩
theorem Led.fresh {b h:Heap} {L:Addr} {m:Str → Option Value} {l:List (Addr × Obj)} {o:Obj} (D:Led b L h l) (F:Fr b L h m) (ho:o.isFreed = false):Led b L (h.push o) ((h.objs.size,o) :: l):=by
 have hlt:@LT.lt Nat _ L h.objs.size:=F.ns.lt
 have hab:@LE.le Nat _ b.objs.size L:=F.above
 refine ⟨fun p hp=>?_,B0i (fun p hp=>Nat.ne_of_lt (D.lt p hp)) D.nd⟩
 rcases List.mem_cons.mp hp with rfl | hp
 ·exact ⟨Heap.get?_push_size _ ho,Nat.ne_of_gt hlt,Heap.get?_none_of_le (Nat.le_trans hab (Nat.le_of_lt hlt))⟩
 ·exact (D.push o).n p hp
theorem Led.live {b h:Heap} {P:Params} {L mq:Addr} {m:Str → Option Value} {z:LexA} {ts:Tok} {y:Str} {k:Nat} {t1:Tok} {n:Nat} {pl R:List (Addr × Obj)} (D:Led b L h ((mq,methodObj (.ref 98) (.ref z.x)) :: (z.news P (lnOf y k) t1 [] n ++ (pl ++ R)))) (F:Fr b L h m) :
  Led b L (h.push (B4l (.ref mq) (.str (Str.ofString "") ts) false)) (z.live P h.objs.size mq ts y k false t1 n pl R):=by
 have D1:=Led.fresh (o:=B4l (.ref mq) (.str (Str.ofString "") ts) false) D F rfl
 refine D1.perm ((List.perm_append_comm_assoc [(h.objs.size,ciO mq ts false),(mq,methodObj (.ref 98) (.ref z.x))] (z.news P (lnOf y k) t1 [] n) (pl ++ R)).trans (List.Perm.append_left _ ?_))
 exact List.perm_append_comm_assoc [(h.objs.size,ciO mq ts false),(mq,methodObj (.ref 98) (.ref z.x))] pl R
section
variable {w:World} {A:Around} {env:Env} {b:Heap} {L:Addr} {z:LexA} {y:Str} {I mq:Addr} {ts:Tok} {n:Nat} {R:List (Addr × Obj)}
noncomputable def CiSt (w:World) (b:Heap) (L:Addr) {z:LexA} {y:Str} (V:Piece w z y) (I mq:Addr) (ts:Tok) (n:Nat) (R:List (Addr × Obj)) (J:Nat → (Str → Option Value) → Prop) (k:Nat) (e:Bool) (h:Heap):Prop :=
 ∃ m t1 pl,Fr b L h m ∧ Led b L h (z.live w.params I mq ts y k e t1 n pl R) ∧ V.St k pl ∧ J k m ∧ k ≤ y.cps.size ∧ (e = true → k = y.cps.size)
theorem D6h (V:Piece w z y) {s:Shared} {m:Str → Option Value} {k:Nat} {e:Bool} {t1:Tok} {pl:List (Addr × Obj)} {Q:Option Value → Shared → Prop} (C:Cal w b L 12 A) (hsz:y.cps.size ≤ 1000)
  (F:Fr b L s.heap m) (D:Led b L s.heap (z.live w.params I mq ts y k e t1 n pl R)) (hst:V.St k pl) (hk:k ≤ y.cps.size) (he:e = true → k = y.cps.size)
  (h1:∀ c t h' tk t1 pl',k < y.cps.size → y.cps.toList[k]? = some c → Fr b L h' m → Led b L h' (z.live w.params I mq ts y (k + 1) false t1 n pl' R) → V.St (k + 1) pl' → e = false → Q (some (.str ⟨#[c]⟩ t)) { s with heap:=h',toks:=tk })
  (h2:∀ h' tk t1 pl',k = y.cps.size → Fr b L h' m → Led b L h' (z.live w.params I mq ts y k true t1 n pl' R) → V.St k pl' → Q none { s with heap:=h',toks:=tk }) :
  wpAny (model Pr w) A (pyNext (.ref I)) Q Nev s:=by
 have mI:(I,ciO mq ts e) ∈ z.live w.params I mq ts y k e t1 n pl R:=List.mem_append_right _ (List.mem_append_right _ (.head _))
 have gI:=D.n _ mI
 have mM:(mq,methodObj (.ref 98) (.ref z.x)) ∈ z.live w.params I mq ts y k e t1 n pl R:=List.mem_append_right _ (List.mem_append_right _ (.tail _ (.head _)))
 have gM:=D.n _ mM
 have hh:=C.hh
 cases e with
 | true =>
  refine C0t hh gI.1 fun h' hkp=>?_
  exact h2 h' s.toks t1 pl (he rfl) ⟨F.ns.at' fun o e=>hkp _ o e,fun a o e=>hkp a o (F.keep a o e),F.above⟩ (D.keep fun p hp=>hkp _ _ (D.n p hp).1) hst
 | false =>
  refine Ab.C0i (D5o C.X) fun o fd ho hd=>?_
  refine D4t (x:=.ref z.x) (f0:=98) (o:=o) (fd:=fd) hh gI.1 gM.1 (F.keep _ _ ho) hd ?_
  refine codeAny_mono (B9j V (R:=(I,ciO mq ts false) :: (mq,methodObj (.ref 98) (.ref z.x)) :: R) (Q:=fun v s'=>∃ y0 u,v = .str y0 u ∧ s'.heap.get? I = some (B4l (.ref mq) (.str (Str.ofString "") ts) false) ∧ s'.heap.get? mq = some (methodObj (.ref 98) (.ref z.x)) ∧ s'.heap.get? 98 = some o ∧
    (Str.ofString "" ≠ y0 → Q (some v) s') ∧ (Str.ofString "" = y0 → ∀ h',h'.get? I = some (B4l .none .none true) → (∀ b ob,b ≠ I → s'.heap.get? b = some ob → h'.get? b = some ob) → Q none { s' with heap:=h' })) (Cal.mono (C.in1) (by exact Ab.om241)) F D hst hk hsz ?_) ?_
  ·intro h' tk t t1' pl' F' D' hst'
   have gI':=D'.n (I,ciO mq ts false) (List.mem_append_right _ (List.mem_append_right _ (.head _)))
   have gM':=D'.n (mq,methodObj (.ref 98) (.ref z.x)) (List.mem_append_right _ (List.mem_append_right _ (.tail _ (.head _))))
   refine ⟨_,_,rfl,gI'.1,gM'.1,F'.keep _ _ ho,fun hne=>?_,fun heq h'' hI hkp=>?_⟩
   ·have hlt:k < y.cps.size:=by
     rcases Nat.lt_or_ge k y.cps.size with q | q
     ·exact q
     ·exact absurd (piece_empty.mpr q) hne
    have hs:stepK y k = k + 1:=if_pos hlt
    rw [hs] at D' hst'
    have hp:pieceAt y k = ⟨#[y.cps[k]]⟩:=by unfold pieceAt; (exact Ab.eqQ (Array.getElem?_eq_getElem hlt) rfl)
    (refine Ab.eqQ hp ?_)
    exact h1 _ t h' tk t1' pl' hlt (by simp [hlt]) F' D' hst' rfl
   ·have hge:y.cps.size ≤ k:=piece_empty.mp heq
    have hs:stepK y k = k:=if_neg (by exact Ab.om242 hk hge)
    rw [hs] at D' hst'
    refine h2 h'' tk t1' pl' (by exact Ab.om243 hk hge) ⟨F'.ns.at' fun o e=>hkp _ o (Ne.symm gI'.2.1) e,fun a o e=>hkp a o (fun q=>by rw [q,gI'.2.2] at e; exact Ab.noP e) (F'.keep a o e),F'.above⟩ ?_ hst'
    have D2:Led b L h' ((z.news w.params (lnOf y k) t1' [] n ++ pl') ++ (I,ciO mq ts false) :: (mq,methodObj (.ref 98) (.ref z.x)) :: R):=by rw [List.append_assoc]; exact D'
    have D3:=Led.set (o':=ciO mq ts true) D2 hI hkp
    rw [List.append_assoc] at D3
    exact D3
  ·intro r s' hr
   cases r with
   | error e=>exact hr
   | ok f=>cases f <;> first | exact hr | exact hr.elim
noncomputable def CiEnd (w:World) (b:Heap) (L:Addr) {z:LexA} {y:Str} (V:Piece w z y) (I mq:Addr) (ts:Tok) (n:Nat) (R:List (Addr × Obj)) (J:Nat → (Str → Option Value) → Prop) (k:Nat) (s:Shared) (Q:Flow → Shared → Prop) (f:Flow) (s₂:Shared):Prop :=
 match f with
 | .brk=>Q .next s₂
 | .ret v=>Q (.ret v) s₂
 | _=>s₂.drawn = s.drawn ∧ s₂.os = s.os ∧ s₂.gens = s.gens ∧ ∃ k' e',k < k' ∧ CiSt w b L V I mq ts n R J k' e' s₂.heap
theorem CiEnd.next {V:Piece w z y} {J:Nat → (Str → Option Value) → Prop} {k:Nat} {s s₂:Shared} {Q:Flow → Shared → Prop} {m:Str → Option Value} {t1:Tok} {pl:List (Addr × Obj)} (k':Nat) (e':Bool) (hk:k < k')
  (F:Fr b L s₂.heap m) (D:Led b L s₂.heap (z.live w.params I mq ts y k' e' t1 n pl R)) (hst:V.St k' pl) (hJ:J k' m) (hle:k' ≤ y.cps.size) (he:e' = true → k' = y.cps.size)
  (h1:s₂.drawn = s.drawn) (h2:s₂.os = s.os) (h3:s₂.gens = s.gens):CiEnd w b L V I mq ts n R J k s Q .next s₂:=⟨h1,h2,h3,k',e',hk,m,t1,pl,F,D,hst,hJ,hle,he⟩
theorem CiEnd.cont {V:Piece w z y} {J:Nat → (Str → Option Value) → Prop} {k:Nat} {s s₂:Shared} {Q:Flow → Shared → Prop} {m:Str → Option Value} {t1:Tok} {pl:List (Addr × Obj)} (k':Nat) (e':Bool) (hk:k < k')
  (F:Fr b L s₂.heap m) (D:Led b L s₂.heap (z.live w.params I mq ts y k' e' t1 n pl R)) (hst:V.St k' pl) (hJ:J k' m) (hle:k' ≤ y.cps.size) (he:e' = true → k' = y.cps.size)
  (h1:s₂.drawn = s.drawn) (h2:s₂.os = s.os) (h3:s₂.gens = s.gens):CiEnd w b L V I mq ts n R J k s Q .cont s₂:=⟨h1,h2,h3,k',e',hk,m,t1,pl,F,D,hst,hJ,hle,he⟩
theorem C1u (V:Piece w z y) {x:Str} {px:Pos} {body:List Stmt} {s:Shared} {Q:Flow → Shared → Prop} {J:Nat → (Str → Option Value) → Prop} {k0:Nat} {e0:Bool} (C:Cal w b env.locals 12 A) (hsz:y.cps.size ≤ 1000)
  (hx:env.kindOf x = some .local) (hp:(env.scope.kind == .class || (env.scope.kind == .module && env.locals != env.globals)) = false)
  (h0:CiSt w b env.locals V I mq ts n R J k0 e0 s.heap)
  (step:∀ k c t m₁ t1 pl h₁ tk,k0 ≤ k → y.cps.toList[k]? = some c → J k m₁ → Fr b env.locals h₁ (fun z=>if z = x then some (.str ⟨#[c]⟩ t) else m₁ z) → Led b env.locals h₁ (z.live w.params I mq ts y (k + 1) false t1 n pl R) → V.St (k + 1) pl →
   wpAny (model Pr w) A (execs body env) (CiEnd w b env.locals V I mq ts n R J k s Q) Nev { s with heap:=h₁,toks:=tk })
  (done:∀ m₁ t1 pl h₁ tk,k0 ≤ y.cps.size → J y.cps.size m₁ → Fr b env.locals h₁ m₁ → Led b env.locals h₁ (z.live w.params I mq ts y y.cps.size true t1 n pl R) → V.St y.cps.size pl → Q .next { s with heap:=h₁,toks:=tk }) :
  B4n Pr w A env (.Name x px) body Q (.ref I) s:=by
 have ne:∀ {α:Type} {t:Sem α} {Q:α → Shared → Prop} {s':Shared} {E:Value → Shared → Prop},wpAny (model Pr w) A t Q Nev s' → wpAny (model Pr w) A t Q E s':=fun h=>wpAny_mono h Mine.idE fun Z Z x=>x.elim
 refine codeAny_forLoop_any (fun j s'=>∃ k e,s'.drawn = s.drawn ∧ s'.os = s.os ∧ s'.gens = s.gens ∧ CiSt w b env.locals V I mq ts n R J k e s'.heap ∧ k0 ≤ k ∧ j = y.cps.size + 1 - k) ?_ (y.cps.size + 1 - k0) ⟨k0,e0,rfl,rfl,rfl,h0,Nat.le_refl _,rfl⟩
 rintro j ⟨h',g',dr',tk',os'⟩ ⟨k,e,e1,e2,e3,⟨m,t1,pl,F,D,hst,hJ,hk,he⟩,hk0,rfl⟩
 dsimp only at e1 e2 e3 F D
 (refine Ab.eqQ e1 ?_; refine Ab.eqQ e2 ?_; refine Ab.eqQ e3 ?_)
 refine ne (D6h V C hsz F D hst hk he ?_ ?_)
 ·intro c t h₁ tk t1' pl' hlt hc F₁ D₁ hst₁ _
  show wpAny _ A (pure ()) _ _ _
  refine wpAny_pure ?_
  refine wpAny_assign_Name (wpAny_storeName_local hx F₁.ns (fun h₂ hn hs=>?_) hp)
  replace hs:Heap.SameBut env.locals h₁ h₂:=hs
  refine ne (wpAny_mono (step k c t m t1' pl' h₂ _ hk0 hc hJ (F₁.set hn hs) (D₁.keep fun p hp=>(hs.2 p.1 (D₁.n p hp).2.1).trans (D₁.n p hp).1) hst₁) (fun f s₂ h₂'=>?_) fun Z Z q=>q)
  cases f with
  | brk=>exact h₂'
  | ret v=>exact h₂'
  | cont =>
   obtain ⟨a1,a2,a3,k',e',hkk,hS⟩:=h₂'
   exact ⟨_,by exact Ab.om57 hlt hkk,k',e',a1,a2,a3,hS,by exact Ab.om58 hk0 hkk,rfl⟩
  | next =>
   obtain ⟨a1,a2,a3,k',e',hkk,hS⟩:=h₂'
   exact ⟨_,by exact Ab.om57 hlt hkk,k',e',a1,a2,a3,hS,by exact Ab.om58 hk0 hkk,rfl⟩
 ·intro h₁ tk t1' pl' hk2 F₁ D₁ hst₁
  subst hk2
  refine wpAny_execs_nil ?_
  exact done m t1' pl' h₁ tk hk0 hJ F₁ D₁ hst₁
end
end Mine
end
section
namespace Mine
theorem B5q {w:World} {A:Around} {b:Heap} {L:Addr} {s:Shared} {m:Str → Option Value} {z:LexA} {ln:Int} {t1:Tok} {pb:List Value} {v:Value} {n:Nat} {R:List (Addr × Obj)} {Q:Value → Shared → Prop}
 (C:Cal w b L 5 A) (F:Fr b L s.heap m) (D:Led b L s.heap (z.news w.params ln t1 pb n ++ R)) (hlen:pb.length ≤ 1000)
 (h:∀ h' tk,Fr b L h' m → Led b L h' (z.news w.params ln t1 (pb ++ [v]) (n + 1) ++ R) → Q .none { s with heap:=h',toks:=tk }) :
 wpAny (model Pr w) A (call (.ref 112) [.ref z.x,v]) Q Nev s:=by
 obtain ⟨A₀,base,env,outer,lo,mean,mg,mb,dp,gd,un,B,hf,hke,T,hroom,hunits,X⟩:=C
 have N:=D.n
 have hnd:=D.nd
 obtain ⟨x,d,x2,d2,q,q2,f,fd,k1,k2,k3,k4,t3,j1,j2,j3,j4,j5,u1,u3,ws⟩:=z
 simp only [LexA.news,LexA.oLine,LexA.oStrm,ent,List.cons_append,List.nil_append] at N
 dsimp only
 k_extra "open_x"
 intro g' L' h' FG' F' N' B' X' T'
 refine wpAny_mono (E:=Nev) ?_ Mine.idE Mine.B6o
 refine (let fA:=_; (?_:wpAny _ fA _ _ _ _))
 obtain ⟨m0,F'⟩:=B3j F' "self" "token" rfl rfl
 have c3:=B0d hnd
 dsimp only [List.cons_append,List.nil_append,List.append] at c3
 k_extra "oz0"
 rename _=>z1; revert z1; rename _=>z2; revert z2; rename _=>N8; revert N8; rename _=>F8; intro N8 z2 z1
 rw [List.push_toArray] at N8
 exact h _ _ F8 ⟨N8,hnd⟩
theorem B7u {w:World} {A:Around} {b:Heap} {L:Addr} {s:Shared} {m:Str → Option Value} {z:LexA} {ln:Int} {t1:Tok} {pb:List Value} {v:Value} {n:Nat} {R:List (Addr × Obj)} {Q:Value → Shared → Prop}
 (C:Cal w b L 9 A) (F:Fr b L s.heap m) (D:Led b L s.heap (z.news w.params ln t1 (v :: pb) n ++ R)) (hlen:pb.length ≤ 1000)
 (h:∀ h' tk,Fr b L h' m → Led b L h' (z.news w.params ln t1 pb (n + 1) ++ R) → Q v { s with heap:=h',toks:=tk }) :
 wpAny (model Pr w) A (call (.ref 105) [.ref z.x]) Q Nev s:=by
 obtain ⟨A₀,base,env,outer,lo,mean,mg,mb,dp,gd,un,B,hf,hke,T,hroom,hunits,X⟩:=C
 have N:=D.n
 have hnd:=D.nd
 obtain ⟨x,d,x2,d2,q,q2,f,fd,k1,k2,k3,k4,t3,j1,j2,j3,j4,j5,u1,u3,ws⟩:=z
 simp only [LexA.news,LexA.oLine,LexA.oStrm,ent,List.cons_append,List.nil_append] at N
 dsimp only
 k_extra "open_x"
 intro g' L' h' FG' F' N' B' X' T'
 refine wpAny_mono (E:=Nev) ?_ Mine.idE Mine.B6o
 refine (let fA:=_; (?_:wpAny _ fA _ _ _ _))
 obtain ⟨m0,F'⟩:=B3k F' "self" rfl
 have c3:=B0d hnd
 dsimp only [List.cons_append,List.nil_append,List.append] at c3
 k_extra "oz0"
 refine Halt.out ?_
 refine kl_popAt (its:=(v :: pb).toArray) (p:=[]) (q:=pb) (k:=0) F' N' (by decide) (by simp [seqIndex?]) rfl (by k_upd) (by rw [sizeLine_eq]; simp; exact Ab.om577 hlen) ?_
 intro h2 F2 N2
 k_extra "oz0"
 rename _=>z1; revert z1; rename _=>z2; revert z2; rename _=>N8; revert N8; rename _=>F8; intro N8 z2 z1
 exact h _ _ F8 ⟨N8,hnd⟩
end Mine
end
section
namespace Mine
noncomputable def C3b (c:Nat):Bool:=!(Builtin.Str.occurrences (Str.ofString "\n\t\r ") ⟨#[c]⟩ 0 (Str.ofString "\n\t\r ").length 1).isEmpty
noncomputable def B6j (f:List Nat → Str → Str × List Nat) (r:List Nat) (acc:Str):Str × List Nat:=match r with
 | []=>f [] (acc ++ ⟨#[]⟩)
 | d :: r'=>f r' (acc ++ ⟨#[d]⟩)
noncomputable def inQ:List Nat → Str → Str × List Nat
 | [],acc=>(acc,[])
 | [c],acc=>if c = 34 then (acc,[]) else if c = 92 then (acc ++ ⟨#[]⟩,[]) else (acc ++ ⟨#[c]⟩,[])
 | c :: d :: r,acc=>if c = 34 then (acc,d :: r) else if c = 92 then inQ r (acc ++ ⟨#[d]⟩) else inQ (d :: r) (acc ++ ⟨#[c]⟩)
noncomputable def inW:List Nat → Str → Str × List Nat
 | [],acc=>(acc,[])
 | [c],acc=>if C3b c then (acc,[]) else if c = 92 then (acc ++ ⟨#[]⟩,[]) else (acc ++ ⟨#[c]⟩,[])
 | c :: d :: r,acc=>if C3b c then (acc,d :: r) else if c = 92 then inW r (acc ++ ⟨#[d]⟩) else inW (d :: r) (acc ++ ⟨#[c]⟩)
noncomputable def B8w:List Nat → Str × List Nat
 | []=>(Str.ofString "",[])
 | c :: r=>if C3b c then B8w r else if c = 34 then inQ r (Str.ofString "") else if c = 92 then B6j inW r (Str.ofString "") else inW r (Str.ofString "" ++ ⟨#[c]⟩)
theorem B8f (c:Nat) (r:List Nat) (acc:Str):inQ (c :: r) acc = if c = 34 then (acc,r) else if c = 92 then B6j inQ r acc else inQ r (acc ++ ⟨#[c]⟩):=by
 cases r <;> rfl
theorem B8e (c:Nat) (r:List Nat) (acc:Str):inW (c :: r) acc = if C3b c then (acc,r) else if c = 92 then B6j inW r acc else inW r (acc ++ ⟨#[c]⟩):=by
 cases r <;> rfl
theorem B3x {l:List Nat} {k c:Nat} (hc:l[k]? = some c):l.drop k = c :: l.drop (k + 1):=(List.getElem?_eq_some_iff.mp hc).2 ▸ List.drop_eq_getElem_cons _
theorem C1v (f:List Nat → Str → Str × List Nat) (y:Str) (j:Nat) (acc:Str):B6j f (y.cps.toList.drop j) acc = f (y.cps.toList.drop (stepK y j)) (acc ++ pieceAt y j):=by
 unfold stepK pieceAt
 by_cases h:j < y.cps.size
 ·rw [if_pos h,Array.getElem?_eq_getElem h,B3x (l:=y.cps.toList) (k:=j) (c:=y.cps[j]) (by simp [h])]
  rfl
 ·rw [if_neg h,Array.getElem?_eq_none (by exact Ab.om6 h),List.drop_eq_nil_of_le (by simp; exact Ab.om6 h)]
  rfl
theorem B7p {y:Str} {j:Nat} (h:j ≤ y.cps.size):stepK y j ≤ y.cps.size ∧ j ≤ stepK y j:=by
 unfold stepK; split <;> (first | exact Ab.om352 (by assumption) | exact Ab.om353 h (by assumption) | omega)
theorem B5r (y:Str) (j:Nat):(pieceAt y j).length + j ≤ stepK y j:=by
 unfold stepK pieceAt
 by_cases h:j < y.cps.size
 ·rw [if_pos h,Array.getElem?_eq_getElem h]; show 1 + j ≤ j + 1; exact Ab.om354
 ·rw [if_neg h,Array.getElem?_eq_none (by exact Ab.om6 h)]; show 0 + j ≤ j; exact Ab.om355
theorem D1p {w:World} {A:Around} {b:Heap} {L:Addr} {s:Shared} {m:Str → Option Value} {z:LexA} {y:Str} (V:Piece w z y) {I mq:Addr} {ts:Tok} {k n:Nat} {t1:Tok} {pl R:List (Addr × Obj)} {acc:Str} {t:Tok} {r:Str × List Nat} {Q:Flow → Shared → Prop}
 (C:Cal w b L 20 A) (hsz:y.cps.size ≤ 1000) (F:Fr b L s.heap m) (D:Led b L s.heap (z.live w.params I mq ts y k false t1 n pl R)) (hst:V.St k pl) (m1:m "self" = some (.ref z.x)) (m2:m "token" = some (.str acc t)) (m3:m "fiter" = some (.ref I)) (hJ:inW (y.cps.toList.drop k) acc = r) (glen:acc.length ≤ k) (hk:k ≤ y.cps.size)
 (fin1:∀ h' tk t t1 pl k' m',Fr b L h' m' → Led b L h' (z.live w.params I mq ts y k' false t1 n pl R) → V.St k' pl → k' ≤ y.cps.size → y.cps.toList.drop k' = r.2 → Q (.ret (.str r.1 t)) { s with heap:=h',toks:=tk })
 (fin2:∀ h' tk t t1 pl m',Fr b L h' m' → Led b L h' (z.live w.params I mq ts y y.cps.size true t1 n pl R) → V.St y.cps.size pl → m' "self" = some (.ref z.x) → m' "token" = some (.str r.1 t) → m' "fiter" = some (.ref I) → r.2 = [] → Q .next { s with heap:=h',toks:=tk }) :
 wpAny (model Pr w) A (exec (Stmt.For (Expr.Name (Str.ofString "ch") { line:=153,col:=20,endLine:=153,endCol:=22 }) (Expr.Name (Str.ofString "fiter") { line:=153,col:=26,endLine:=153,endCol:=31 }) [Stmt.If ((Expr.Name (Str.ofString "ch") { line:=154,col:=23,endLine:=154,endCol:=25 }).Compare [CmpOp.In] [(Expr.Name (Str.ofString "self") { line:=154,col:=29,endLine:=154,endCol:=33 }).Attribute (Str.ofString "whitespace") { line:=154,col:=29,endLine:=154,endCol:=44 }] { line:=154,col:=23,endLine:=154,endCol:=44 }) [Stmt.Return (some (Expr.Name (Str.ofString "token") { line:=155,col:=31,endLine:=155,endCol:=36 })) { line:=155,col:=24,endLine:=155,endCol:=36 }] [Stmt.If ((Expr.Name (Str.ofString "ch") { line:=156,col:=25,endLine:=156,endCol:=27 }).Compare [CmpOp.Eq] [Expr.Constant (Const.str (Str.ofString "\\")) 0 { line:=156,col:=31,endLine:=156,endCol:=35 }] { line:=156,col:=25,endLine:=156,endCol:=35 }) [Stmt.Assign [Expr.Name (Str.ofString "ch") { line:=157,col:=24,endLine:=157,endCol:=26 }] (((Expr.Name (Str.ofString "self") { line:=157,col:=29,endLine:=157,endCol:=33 }).Attribute (Str.ofString "_read_char") { line:=157,col:=29,endLine:=157,endCol:=44 }).Call [] [] { line:=157,col:=29,endLine:=157,endCol:=46 }) { line:=157,col:=24,endLine:=157,endCol:=46 }] [] { line:=156,col:=20,endLine:=157,endCol:=46 }] { line:=154,col:=20,endLine:=157,endCol:=46 },Stmt.AugAssign (Expr.Name (Str.ofString "token") { line:=158,col:=20,endLine:=158,endCol:=25 }) Operator.Add (Expr.Name (Str.ofString "ch") { line:=158,col:=29,endLine:=158,endCol:=31 }) { line:=158,col:=20,endLine:=158,endCol:=31 }] [] { line:=153,col:=16,endLine:=158,endCol:=31 }) (envOf (Str.ofString "_netrclex.get_token") { kind:=ScopeKind.function,names:=[(Str.ofString "self",NameKind.local),(Str.ofString "token",NameKind.local),(Str.ofString "fiter",NameKind.local),(Str.ofString "ch",NameKind.local),(Str.ofString "iter",NameKind.globalImplicit)],isGenerator:=false,isCoroutine:=false } L 105 (Value.ref 104))) Q Nev s:=by
 obtain ⟨A₀,base,env,outer,lo,mean,mg,mb,dp,gd,un,B',hf,hke,T',hroom,hunits,X'⟩:=C
 have N:=D.n
 simp only [LexA.live,LexA.news,List.cons_append,List.nil_append] at N
 replace F:=pin (pin (pin F (x := "self") m1) (x := "token") m2) (x := "fiter") m3
 change Fr b L s.heap _ at F
 refine B4o ?_ (fun _=>rfl)
 k_extra "oz1"
 refine Halt.out ?_
 refine C1b (D.n (I,ciO mq ts false) (List.mem_append_right _ (List.mem_append_right _ (.head _)))).1 ?_
 refine C1u V (J:=fun k' m=>∃ acc t,m "self" = some (.ref z.x) ∧ m "token" = some (.str acc t) ∧ m "fiter" = some (.ref I) ∧ inW (y.cps.toList.drop k') acc = r ∧ acc.length ≤ k') (Cal.mk' B' X' T' hf hke (by k_room) (by k_units) rfl) hsz rfl rfl
  ⟨_,_,_,F,D,hst,⟨_,_,rfl,rfl,rfl,hJ,glen⟩,hk,fun q=>(by cases q)⟩ ?_ ?_
 ·intro k2 c2 t2 m₂ t1'' pl2 h₂ tk₂ hk2 hc2 h9710 F₂ D₂ hst₂
  refine Ab.D6v h9710 fun acc tt2 gm1 gm2 gm3 gJ glen=>?_
  have hlt2:k2 < y.cps.size:=by have:=(List.getElem?_eq_some_iff.mp hc2).1; simpa using this
  rw [B3x hc2,B8e] at gJ
  replace F₂:=pin (pin (pin F₂ (x := "self") gm1) (x := "token") gm2) (x := "fiter") gm3
  change Fr b L h₂ _ at F₂
  have N₂:=D₂.n
  have hnd₂:=D₂.nd
  simp only [LexA.live,LexA.news,List.cons_append,List.nil_append] at N₂
  change News b L h₂ _ at N₂
  clear F D
  refine opq fun K hK=>?_
  k_extra "oz1"
  ·revert tk; revert fq; rename _=>hq3; revert hq3; rename _=>z1; revert z1; rename _=>z2; revert z2; rename _=>hq2; intro z2 z1 hq3 fq tk
   rw [if_neg (by unfold C3b; rw [hq2]; decide)] at gJ
   rw [B2b c2 92 _ (by decide)] at hq3
   rw [if_pos (of_decide_eq_true hq3),C1v] at gJ
   refine Halt.out ?_
   dsimp only [List.cons_append,List.nil_append]
   refine B5p V (R:=(I,ciO mq ts false) :: (mq,methodObj (.ref 98) (.ref z.x)) :: R) (Cal.mk' B' X' T' hf hke (by k_room) (by k_units) rfl) F₂ D₂ hst₂ hlt2 hsz fun h5 tk5 t5 t6 pl5 F5 D5 hst5=>?_
   have N5:=D5.n
   have hnd5:=D5.nd
   simp only [LexA.live,LexA.news,List.cons_append,List.nil_append] at N5
   change News b L h5 _ at N5
   have hp1:=B5r y (k2 + 1)
   obtain ⟨hp2,hp3⟩:=B7p (y:=y) (j:=k2 + 1) hlt2
   clear F₂ N₂ D₂
   k_extra "oz1"
   rename _=>N7; revert N7; rename _=>F7; revert F7; rename _=>h7; revert h7; rename _=>hl7; revert hl7; rename _=>k7; revert k7; rename _=>t7; intro k7 hl7 h7 F7 N7
   exact hK _ _ (CiEnd.next (stepK y (k2 + 1)) false (by exact Ab.om4 hp3) F7 ⟨N7,hnd5⟩ hst5 ⟨_,_,rfl,rfl,rfl,gJ,by exact Ab.om34 glen hp1 hl7⟩ hp2 (fun q=>by cases q) rfl rfl rfl)
  ·rename _=>N7; revert N7; rename _=>F7; revert F7; rename _=>h7; revert h7; rename _=>hl7; revert hl7; rename _=>k7; revert k7; rename _=>t7; revert t7; revert tk; rename _=>hq3; revert hq3; rename _=>z1; revert z1; revert fq; rename _=>hq2; intro fq z1 hq3 tk t7 k7 hl7 h7 F7 N7
   rw [if_neg (by unfold C3b; rw [hq2]; decide)] at gJ
   rw [B2b c2 92 _ (by decide)] at hq3
   rw [if_neg (of_decide_eq_false hq3)] at gJ
   have h1l:(⟨#[c2]⟩:Str).length = 1:=rfl
   exact hK _ _ (CiEnd.next (k2 + 1) false (by exact Ab.om7) F7 ⟨N7,hnd₂⟩ hst₂ ⟨_,_,rfl,rfl,rfl,gJ,by exact Ab.om35 glen hl7 h1l⟩ hlt2 (fun q=>by cases q) rfl rfl rfl)
  ·revert tk; revert fq; rename _=>hq2; intro fq tk
   rw [if_pos (by unfold C3b; rw [hq2]; decide)] at gJ
   dsimp only
   k_extra "oz1"
   refine hK _ _ ?_
   unfold CiEnd
   dsimp only
   subst gJ
   exact fin1 _ _ tt2 t1'' pl2 (k2 + 1) _ F₂ D₂ hst₂ hlt2 rfl
 ·intro m₂ t1'' pl2 h₂ tk₂ hk2 h976 F₂ D₂ hst₂
  refine Ab.D6v h976 fun acc tt2 gm1 gm2 gm3 gJ glen=>?_
  rw [List.drop_eq_nil_of_le (Nat.le_of_eq Array.length_toList)] at gJ
  have gJ:(acc,[]) = r:=gJ
  subst gJ
  exact fin2 _ _ tt2 t1'' pl2 m₂ F₂ D₂ hst₂ gm1 gm2 gm3 rfl
theorem D8c {w:World} {A:Around} {b:Heap} {L:Addr} {s:Shared} {m:Str → Option Value} {z:LexA} {y:Str} (V:Piece w z y) {I mq:Addr} {ts:Tok} {k n:Nat} {t1:Tok} {pl R:List (Addr × Obj)} {acc:Str} {t:Tok} {r:Str × List Nat} {Q:Flow → Shared → Prop}
 (C:Cal w b L 20 A) (hsz:y.cps.size ≤ 1000) (F:Fr b L s.heap m) (D:Led b L s.heap (z.live w.params I mq ts y k false t1 n pl R)) (hst:V.St k pl) (m1:m "self" = some (.ref z.x)) (m2:m "token" = some (.str acc t)) (m3:m "fiter" = some (.ref I)) (hJ:inQ (y.cps.toList.drop k) acc = r) (glen:acc.length ≤ k) (hk:k ≤ y.cps.size)
 (fin1:∀ h' tk t t1 pl k' m',Fr b L h' m' → Led b L h' (z.live w.params I mq ts y k' false t1 n pl R) → V.St k' pl → k' ≤ y.cps.size → y.cps.toList.drop k' = r.2 → Q (.ret (.str r.1 t)) { s with heap:=h',toks:=tk })
 (fin2:∀ h' tk t t1 pl m',Fr b L h' m' → Led b L h' (z.live w.params I mq ts y y.cps.size true t1 n pl R) → V.St y.cps.size pl → m' "self" = some (.ref z.x) → m' "token" = some (.str r.1 t) → m' "fiter" = some (.ref I) → r.2 = [] → Q .next { s with heap:=h',toks:=tk }) :
 wpAny (model Pr w) A (exec (Stmt.For (Expr.Name (Str.ofString "ch") { line:=143,col:=20,endLine:=143,endCol:=22 }) (Expr.Name (Str.ofString "fiter") { line:=143,col:=26,endLine:=143,endCol:=31 }) [Stmt.If ((Expr.Name (Str.ofString "ch") { line:=144,col:=23,endLine:=144,endCol:=25 }).Compare [CmpOp.Eq] [Expr.Constant (Const.str (Str.ofString "\"")) 0 { line:=144,col:=29,endLine:=144,endCol:=32 }] { line:=144,col:=23,endLine:=144,endCol:=32 }) [Stmt.Return (some (Expr.Name (Str.ofString "token") { line:=145,col:=31,endLine:=145,endCol:=36 })) { line:=145,col:=24,endLine:=145,endCol:=36 }] [Stmt.If ((Expr.Name (Str.ofString "ch") { line:=146,col:=25,endLine:=146,endCol:=27 }).Compare [CmpOp.Eq] [Expr.Constant (Const.str (Str.ofString "\\")) 0 { line:=146,col:=31,endLine:=146,endCol:=35 }] { line:=146,col:=25,endLine:=146,endCol:=35 }) [Stmt.Assign [Expr.Name (Str.ofString "ch") { line:=147,col:=24,endLine:=147,endCol:=26 }] (((Expr.Name (Str.ofString "self") { line:=147,col:=29,endLine:=147,endCol:=33 }).Attribute (Str.ofString "_read_char") { line:=147,col:=29,endLine:=147,endCol:=44 }).Call [] [] { line:=147,col:=29,endLine:=147,endCol:=46 }) { line:=147,col:=24,endLine:=147,endCol:=46 }] [] { line:=146,col:=20,endLine:=147,endCol:=46 }] { line:=144,col:=20,endLine:=147,endCol:=46 },Stmt.AugAssign (Expr.Name (Str.ofString "token") { line:=148,col:=20,endLine:=148,endCol:=25 }) Operator.Add (Expr.Name (Str.ofString "ch") { line:=148,col:=29,endLine:=148,endCol:=31 }) { line:=148,col:=20,endLine:=148,endCol:=31 }] [] { line:=143,col:=16,endLine:=148,endCol:=31 }) (envOf (Str.ofString "_netrclex.get_token") { kind:=ScopeKind.function,names:=[(Str.ofString "self",NameKind.local),(Str.ofString "token",NameKind.local),(Str.ofString "fiter",NameKind.local),(Str.ofString "ch",NameKind.local),(Str.ofString "iter",NameKind.globalImplicit)],isGenerator:=false,isCoroutine:=false } L 105 (Value.ref 104))) Q Nev s:=by
 obtain ⟨A₀,base,env,outer,lo,mean,mg,mb,dp,gd,un,B',hf,hke,T',hroom,hunits,X'⟩:=C
 have N:=D.n
 simp only [LexA.live,LexA.news,List.cons_append,List.nil_append] at N
 replace F:=pin (pin (pin F (x := "self") m1) (x := "token") m2) (x := "fiter") m3
 change Fr b L s.heap _ at F
 refine B4o ?_ (fun _=>rfl)
 k_extra "oz1"
 refine Halt.out ?_
 refine C1b (D.n (I,ciO mq ts false) (List.mem_append_right _ (List.mem_append_right _ (.head _)))).1 ?_
 refine C1u V (J:=fun k' m=>∃ acc t,m "self" = some (.ref z.x) ∧ m "token" = some (.str acc t) ∧ m "fiter" = some (.ref I) ∧ inQ (y.cps.toList.drop k') acc = r ∧ acc.length ≤ k') (Cal.mk' B' X' T' hf hke (by k_room) (by k_units) rfl) hsz rfl rfl
  ⟨_,_,_,F,D,hst,⟨_,_,rfl,rfl,rfl,hJ,glen⟩,hk,fun q=>(by cases q)⟩ ?_ ?_
 ·intro k2 c2 t2 m₂ t1'' pl2 h₂ tk₂ hk2 hc2 h9710 F₂ D₂ hst₂
  refine Ab.D6v h9710 fun acc tt2 gm1 gm2 gm3 gJ glen=>?_
  have hlt2:k2 < y.cps.size:=by have:=(List.getElem?_eq_some_iff.mp hc2).1; simpa using this
  rw [B3x hc2,B8f] at gJ
  replace F₂:=pin (pin (pin F₂ (x := "self") gm1) (x := "token") gm2) (x := "fiter") gm3
  change Fr b L h₂ _ at F₂
  have N₂:=D₂.n
  have hnd₂:=D₂.nd
  simp only [LexA.live,LexA.news,List.cons_append,List.nil_append] at N₂
  change News b L h₂ _ at N₂
  clear F D
  refine opq fun K hK=>?_
  k_extra "oz1"
  ·revert tk; revert fq; rename _=>hq2; intro fq tk
   rw [B2b c2 34 _ (by decide)] at hq2
   rw [if_pos (of_decide_eq_true hq2)] at gJ
   dsimp only
   k_extra "oz1"
   refine hK _ _ ?_
   unfold CiEnd
   dsimp only
   subst gJ
   exact fin1 _ _ tt2 t1'' pl2 (k2 + 1) _ F₂ D₂ hst₂ hlt2 rfl
  ·revert tk; revert fq; rename _=>hq3; revert hq3; rename _=>z1; revert z1; rename _=>z2; revert z2; rename _=>hq2; intro z2 z1 hq3 fq tk
   rw [B2b c2 34 _ (by decide)] at hq2
   rw [if_neg (of_decide_eq_false hq2)] at gJ
   rw [B2b c2 92 _ (by decide)] at hq3
   rw [if_pos (of_decide_eq_true hq3),C1v] at gJ
   refine Halt.out ?_
   dsimp only [List.cons_append,List.nil_append]
   refine B5p V (R:=(I,ciO mq ts false) :: (mq,methodObj (.ref 98) (.ref z.x)) :: R) (Cal.mk' B' X' T' hf hke (by k_room) (by k_units) rfl) F₂ D₂ hst₂ hlt2 hsz fun h5 tk5 t5 t6 pl5 F5 D5 hst5=>?_
   have N5:=D5.n
   have hnd5:=D5.nd
   simp only [LexA.live,LexA.news,List.cons_append,List.nil_append] at N5
   change News b L h5 _ at N5
   have hp1:=B5r y (k2 + 1)
   obtain ⟨hp2,hp3⟩:=B7p (y:=y) (j:=k2 + 1) hlt2
   clear F₂ N₂ D₂
   k_extra "oz1"
   rename _=>N7; revert N7; rename _=>F7; revert F7; rename _=>h7; revert h7; rename _=>hl7; revert hl7; rename _=>k7; revert k7; rename _=>t7; intro k7 hl7 h7 F7 N7
   exact hK _ _ (CiEnd.next (stepK y (k2 + 1)) false (by exact Ab.om4 hp3) F7 ⟨N7,hnd5⟩ hst5 ⟨_,_,rfl,rfl,rfl,gJ,by exact Ab.om34 glen hp1 hl7⟩ hp2 (fun q=>by cases q) rfl rfl rfl)
  ·rename _=>N7; revert N7; rename _=>F7; revert F7; rename _=>h7; revert h7; rename _=>hl7; revert hl7; rename _=>k7; revert k7; rename _=>t7; revert t7; revert tk; rename _=>hq3; revert hq3; rename _=>z1; revert z1; revert fq; rename _=>hq2; intro fq z1 hq3 tk t7 k7 hl7 h7 F7 N7
   rw [B2b c2 34 _ (by decide)] at hq2
   rw [if_neg (of_decide_eq_false hq2)] at gJ
   rw [B2b c2 92 _ (by decide)] at hq3
   rw [if_neg (of_decide_eq_false hq3)] at gJ
   have h1l:(⟨#[c2]⟩:Str).length = 1:=rfl
   exact hK _ _ (CiEnd.next (k2 + 1) false (by exact Ab.om7) F7 ⟨N7,hnd₂⟩ hst₂ ⟨_,_,rfl,rfl,rfl,gJ,by exact Ab.om35 glen hl7 h1l⟩ hlt2 (fun q=>by cases q) rfl rfl rfl)
 ·intro m₂ t1'' pl2 h₂ tk₂ hk2 h976 F₂ D₂ hst₂
  refine Ab.D6v h976 fun acc tt2 gm1 gm2 gm3 gJ glen=>?_
  rw [List.drop_eq_nil_of_le (Nat.le_of_eq Array.length_toList)] at gJ
  have gJ:(acc,[]) = r:=gJ
  subst gJ
  exact fin2 _ _ tt2 t1'' pl2 m₂ F₂ D₂ hst₂ gm1 gm2 gm3 rfl
theorem B8i {w:World} {A:Around} {b:Heap} {L:Addr} {s:Shared} {m:Str → Option Value} {z:LexA} {y:Str} (V:Piece w z y) {k:Nat} {t1:Tok} {n:Nat} {pl R:List (Addr × Obj)} {Q:Value → Shared → Prop}
 (C:Cal w b L 30 A) (F:Fr b L s.heap m) (D:Led b L s.heap (z.news w.params (lnOf y k) t1 [] n ++ (pl ++ R))) (hst:V.St k pl) (hk:k ≤ y.cps.size) (hsz:y.cps.size ≤ 1000)
 (h:∀ h' tk t t1 pl' k',Fr b L h' m → Led b L h' (z.news w.params (lnOf y k') t1 [] n ++ (pl' ++ R)) → V.St k' pl' → k' ≤ y.cps.size → y.cps.toList.drop k' = (B8w (y.cps.toList.drop k)).2 → Q (.str (B8w (y.cps.toList.drop k)).1 t) { s with heap:=h',toks:=tk }) :
 wpAny (model Pr w) A (call (.ref 105) [.ref z.x]) Q Nev s:=by
 obtain ⟨A₀,base,env,outer,lo,mean,mg,mb,dp,gd,un,B,hf,hke,T,hroom,hunits,X⟩:=C
 have N:=D.n
 have hnd:=D.nd
 simp only [LexA.news,List.cons_append,List.nil_append] at N
 k_extra "open_x"
 intro g' L' h' FG' F' N' B' X' T'
 refine wpAny_mono (E:=Nev) ?_ Mine.idE Mine.B6o
 refine (let fA:=_; (?_:wpAny _ fA _ _ _ _))
 obtain ⟨m0,F'⟩:=B3k F' "self" rfl
 k_extra "oz1"
 rename _=>l2; revert l2; rename _=>N2; revert N2; rename _=>F2; revert F2; rename _=>h2; revert h2; rename _=>mq; revert mq; rename _=>h1; revert h1; revert tk; rename _=>tk1; intro tk h1 mq h2 F2 N2 l2
 have D2:Led g' L' h2 ((mq,methodObj (.ref 98) (.ref z.x)) :: (z.news w.params (lnOf y k) t1 [] n ++ (pl ++ R))):=⟨N2,B0i (by
  intro p hp
  simp only [LexA.news,List.cons_append,List.nil_append] at hp
  exact B0y (l:=(z.q,_) :: (z.x,_) :: (z.d,_) :: (z.x2,_) :: (z.d2,_) :: (z.f,_) :: (pl ++ R)) l2 p hp) hnd⟩
 refine iter2 (N2.get (.head _)) ?_
 dsimp only
 have D3:=Led.live (ts:=tk + 1 + 1 + 1) D2 F2
 have F3:=F2.push (B4l (.ref mq) (.str (Str.ofString "") (tk + 1 + 1 + 1)) false)
 clear N2 F2 D2 N
 have N3:=D3.n
 have hnd3:=D3.nd
 obtain ⟨ts,hts⟩:∃ ts,ts = tk + 1 + 1 + 1:=⟨_,rfl⟩
 simp only [LexA.live,LexA.news,List.cons_append,List.nil_append] at N3
 k_extra "oz1"
 revert tk; rename _=>N4; revert N4; rename _=>F4; revert F4; rename _=>h4; intro F4 N4 tk
 obtain ⟨I,hI⟩:∃ I,I = h2.objs.size:=⟨_,rfl⟩
 rw [← hI] at F4
 rw [← hI,← hts] at N4
 rw [← hI,← hts] at hnd3
 have D4:Led g' L' h4 (z.live w.params I mq ts y k false t1 n pl R):=⟨N4,hnd3⟩
 refine Halt.out ?_; refine opq fun K0 hK0=>?_; refine stq s fun tk0=>?_; refine B4o ?_ (fun _=>rfl)
 k_extra "oz1"
 refine Halt.out ?_
 refine C1b (D4.n (I,ciO mq ts false) (List.mem_append_right _ (List.mem_append_right _ (.head _)))).1 ?_
 have hJ0:∀ k',k' ≤ y.cps.size → ¬ k' < y.cps.size → y.cps.toList.drop k' = []:=fun k' _ h2=>List.drop_eq_nil_of_le (by simp; exact Ab.om31 (by assumption) h2)
 refine C1u V (J:=fun k' m=>∃ tv t,m "self" = some (.ref z.x) ∧ m "token" = some (.str tv t) ∧ m "fiter" = some (.ref I) ∧ ((tv = Str.ofString "" ∧ B8w (y.cps.toList.drop k') = B8w (y.cps.toList.drop k)) ∨ (k' = y.cps.size ∧ B8w (y.cps.toList.drop k) = (tv,[])))) (Cal.mk' B' X' T' rfl rfl (by k_room) (by k_units) rfl) hsz rfl rfl
  ⟨_,_,_,F4,D4,hst,⟨_,_,rfl,rfl,rfl,.inl ⟨rfl,rfl⟩⟩,hk,fun q=>(by cases q)⟩ ?_ ?_
 ·intro k1 c t m₁ t1' pl1 h₁ tk₁ hk1 hc h9710 F₁ D₁ hst₁
  refine Ab.D3n h9710 fun tv tt hm1 hm2 hm3 hJd=>?_
  have hlt:k1 < y.cps.size:=by have:=(List.getElem?_eq_some_iff.mp hc).1; simpa using this
  have hJ2:tv = Str.ofString "" ∧ B8w (y.cps.toList.drop k1) = B8w (y.cps.toList.drop k):=by
   rcases hJd with q | ⟨q,_⟩
   ·exact q
   ·exact Ab.om357 hlt q
  obtain ⟨rfl,hJ⟩:=hJ2
  clear hJd
  rw [B3x hc,B8w] at hJ
  replace F₁:=pin (pin (pin F₁ (x := "self") hm1) (x := "token") hm2) (x := "fiter") hm3
  change Fr g' L' h₁ _ at F₁
  have N₁:=D₁.n
  have hnd₁:=D₁.nd
  simp only [LexA.live,LexA.news,List.cons_append,List.nil_append] at N₁
  change News g' L' h₁ _ at N₁
  clear F4 N4 D4 D3
  have h1l:(⟨#[c]⟩:Str).length = 1:=rfl
  have h0l:(Str.ofString "").length = 0:=by decide
  refine opq fun K hK=>?_
  k_extra "oz1"
  ·revert tk; revert fq; rename _=>hq; revert hq; rename _=>z1; revert z1; rename _=>hw; intro z1 hq fq tk
   rw [B2b c 34 _ (by decide)] at hq
   rw [if_neg (by unfold C3b; rw [hw]; decide),if_pos (of_decide_eq_true hq)] at hJ
   refine Halt.out ?_
   refine D8c V (Cal.mk' B' X' T' rfl rfl (by k_room) (by k_units) rfl) hsz F₁ D₁ hst₁ rfl rfl rfl hJ (by exact Ab.om359 h0l) hlt (fun h₂ tk₂ tt2 t1'' pl2 k2 m₂ F₂ D₂ hst₂ hk2 e=>?_) fun h₂ tk₂ tt2 t1'' pl2 m₂ F₂ D₂ hst₂ q1 q2 q3 e=>?_
   ·have N₂:=D₂.n
    have hnd₂:=D₂.nd
    simp only [LexA.live,LexA.news,List.cons_append,List.nil_append] at N₂
    change Fr g' L' h₂ _ at F₂
    change News g' L' h₂ _ at N₂
    clear F₁ N₁ D₁
    dsimp only
    k_extra "oz1"
    refine hK _ _ ?_
    unfold CiEnd
    refine hK0 _ _ ?_
    k_extra "oz1"
    rename _=>z1; revert z1; rename _=>z2; revert z2; rename _=>N8; revert N8; rename _=>F8; intro N8 z2 z1
    have D8:Led b L _ (z.live w.params I mq ts y k2 false t1'' n pl2 R):=⟨N8,hnd₂⟩
    exact h _ _ tt2 t1'' pl2 k2 F8 (Led.unlive D8) hst₂ hk2 e
   ·dsimp only
    k_extra "oz1"
    exact hK _ _ (CiEnd.next y.cps.size true (by exact Ab.F1j hlt) F₂ D₂ hst₂ ⟨_,tt2,q1,q2,q3,.inr ⟨rfl,Prod.ext rfl e⟩⟩ (Nat.le_refl _) (fun _=>rfl) rfl rfl rfl)
  ·revert tk; revert fq; rename _=>hq3; revert hq3; rename _=>z1; revert z1; rename _=>z2; revert z2; rename _=>hq; revert hq; rename _=>z3; revert z3; rename _=>hw; intro z3 hq z2 z1 hq3 fq tk
   rw [B2b c 34 _ (by decide)] at hq
   rw [B2b c 92 _ (by decide)] at hq3
   rw [if_neg (by unfold C3b; rw [hw]; decide),if_neg (of_decide_eq_false hq),if_pos (of_decide_eq_true hq3),C1v] at hJ
   refine Halt.out ?_
   dsimp only [List.cons_append,List.nil_append]
   refine B5p V (R:=(I,ciO mq ts false) :: (mq,methodObj (.ref 98) (.ref z.x)) :: R) (Cal.mk' B' X' T' rfl rfl (by k_room) (by k_units) rfl) F₁ D₁ hst₁ hlt hsz fun h5 tk5 t5 t6 pl5 F5 D5 hst5=>?_
   have N5:=D5.n
   have hnd5:=D5.nd
   simp only [LexA.live,LexA.news,List.cons_append,List.nil_append] at N5
   change News g' L' h5 _ at N5
   have hp1:=B5r y (k1 + 1)
   obtain ⟨hp2,hp3⟩:=B7p (y:=y) (j:=k1 + 1) hlt
   clear F₁ N₁ D₁
   k_extra "oz1"
   rename _=>N7; revert N7; rename _=>F7; revert F7; rename _=>h7; revert h7; rename _=>hl7; revert hl7; rename _=>k7; revert k7; rename _=>t7; intro k7 hl7 h7 F7 N7
   have D7:Led g' L' h7 (z.live w.params I mq ts y (stepK y (k1 + 1)) false t6 n pl5 R):=⟨N7,hnd5⟩
   refine Halt.out ?_
   refine D1p V (Cal.mk' B' X' T' rfl rfl (by k_room) (by k_units) rfl) hsz F7 D7 hst5 rfl rfl rfl hJ (by exact Ab.om361 h0l hp1 hl7) hp2 (fun h₂ tk₂ tt2 t1'' pl2 k2 m₂ F₂ D₂ hst₂ hk2 e=>?_) fun h₂ tk₂ tt2 t1'' pl2 m₂ F₂ D₂ hst₂ q1 q2 q3 e=>?_
   ·have N₂:=D₂.n
    have hnd₂:=D₂.nd
    simp only [LexA.live,LexA.news,List.cons_append,List.nil_append] at N₂
    change Fr g' L' h₂ _ at F₂
    change News g' L' h₂ _ at N₂
    clear F7 N7 D7
    dsimp only
    k_extra "oz1"
    refine hK _ _ ?_
    unfold CiEnd
    refine hK0 _ _ ?_
    k_extra "oz1"
    rename _=>z1; revert z1; rename _=>z2; revert z2; rename _=>N8; revert N8; rename _=>F8; intro N8 z2 z1
    have D8:Led b L _ (z.live w.params I mq ts y k2 false t1'' n pl2 R):=⟨N8,hnd₂⟩
    exact h _ _ tt2 t1'' pl2 k2 F8 (Led.unlive D8) hst₂ hk2 e
   ·dsimp only
    k_extra "oz1"
    exact hK _ _ (CiEnd.next y.cps.size true (by exact Ab.F1j hlt) F₂ D₂ hst₂ ⟨_,tt2,q1,q2,q3,.inr ⟨rfl,Prod.ext rfl e⟩⟩ (Nat.le_refl _) (fun _=>rfl) rfl rfl rfl)
  ·rename _=>N7; revert N7; rename _=>F7; revert F7; rename _=>h7; revert h7; rename _=>hl7; revert hl7; rename _=>k7; revert k7; rename _=>t7; revert t7; revert tk; rename _=>hq3; revert hq3; rename _=>z1; revert z1; revert fq; rename _=>hq; revert hq; rename _=>z2; revert z2; rename _=>hw; intro z2 hq fq z1 hq3 tk t7 k7 hl7 h7 F7 N7
   rw [B2b c 34 _ (by decide)] at hq
   rw [B2b c 92 _ (by decide)] at hq3
   rw [if_neg (by unfold C3b; rw [hw]; decide),if_neg (of_decide_eq_false hq),if_neg (of_decide_eq_false hq3)] at hJ
   have D7:Led g' L' h7 (z.live w.params I mq ts y (k1 + 1) false t1' n pl1 R):=⟨N7,hnd₁⟩
   refine Halt.out ?_
   refine D1p V (Cal.mk' B' X' T' rfl rfl (by k_room) (by k_units) rfl) hsz F7 D7 hst₁ rfl rfl rfl hJ (by exact Ab.om362 h1l h0l hl7) hlt (fun h₂ tk₂ tt2 t1'' pl2 k2 m₂ F₂ D₂ hst₂ hk2 e=>?_) fun h₂ tk₂ tt2 t1'' pl2 m₂ F₂ D₂ hst₂ q1 q2 q3 e=>?_
   ·have N₂:=D₂.n
    have hnd₂:=D₂.nd
    simp only [LexA.live,LexA.news,List.cons_append,List.nil_append] at N₂
    change Fr g' L' h₂ _ at F₂
    change News g' L' h₂ _ at N₂
    clear F7 N7 D7
    dsimp only
    k_extra "oz1"
    refine hK _ _ ?_
    unfold CiEnd
    refine hK0 _ _ ?_
    k_extra "oz1"
    rename _=>z1; revert z1; rename _=>z2; revert z2; rename _=>N8; revert N8; rename _=>F8; intro N8 z2 z1
    have D8:Led b L _ (z.live w.params I mq ts y k2 false t1'' n pl2 R):=⟨N8,hnd₂⟩
    exact h _ _ tt2 t1'' pl2 k2 F8 (Led.unlive D8) hst₂ hk2 e
   ·dsimp only
    k_extra "oz1"
    exact hK _ _ (CiEnd.next y.cps.size true (by exact Ab.F1j hlt) F₂ D₂ hst₂ ⟨_,tt2,q1,q2,q3,.inr ⟨rfl,Prod.ext rfl e⟩⟩ (Nat.le_refl _) (fun _=>rfl) rfl rfl rfl)
  ·revert tk; revert fq; rename _=>hw; intro fq tk
   rw [if_pos (by unfold C3b; rw [hw]; decide)] at hJ
   dsimp only
   exact hK _ _ (CiEnd.cont (k1 + 1) false (by exact Ab.om7) F₁ D₁ hst₁ ⟨_,_,rfl,rfl,rfl,.inl ⟨rfl,hJ⟩⟩ hlt (fun q=>by cases q) rfl rfl rfl)
 ·intro m₁ t1' pl1 h₁ tk₁ hk1 h976 F₁ D₁ hst₁
  refine Ab.D3n h976 fun tv tt hm1 hm2 hm3 hJd=>?_
  have hJ:B8w (y.cps.toList.drop k) = (tv,[]):=by
   rcases hJd with ⟨rfl,q⟩ | ⟨_,q⟩
   ·rw [← q,hJ0 _ (Nat.le_refl _) (Nat.lt_irrefl _)]; rfl
   ·exact q
  clear hJd
  replace F₁:=pin F₁ (x := "token") hm2
  change Fr g' L' h₁ _ at F₁
  have N₁:=D₁.n
  have hnd₁:=D₁.nd
  simp only [LexA.live,LexA.news,List.cons_append,List.nil_append] at N₁
  change News g' L' h₁ _ at N₁
  clear F4 N4 D4 D3
  refine hK0 _ _ ?_
  k_extra "oz1"
  rename _=>z1; revert z1; rename _=>z2; revert z2; rename _=>N8; revert N8; rename _=>F8; intro N8 z2 z1
  have D8:Led b L _ (z.live w.params I mq ts y y.cps.size true t1' n pl1 R):=⟨N8,hnd₁⟩
  have e1:tv = (B8w (y.cps.toList.drop k)).1:=by rw [hJ]
  rw [e1]
  exact h _ _ tt t1' pl1 y.cps.size F8 (Led.unlive D8) hst₁ (Nat.le_refl _) (by rw [hJ,hJ0 _ (Nat.le_refl _) (Nat.lt_irrefl _)])
end Mine
end
section
namespace Mine
theorem B6m {d e:Nat}:∀ {l:List (Addr × Obj)},AllLt d l → d ≤ e → ∀ p ∈ l,p.1 ≠ e
 | [],J,Y,p,hp=>nomatch hp
 | q :: r,⟨h1,h2⟩,hk,p,hp=>by
  rcases List.mem_cons.mp hp with rfl | hp
  ·exact Nat.ne_of_lt (Nat.lt_of_lt_of_le h1 hk)
  ·exact B6m h2 hk p hp
theorem B5v {a:Addr} {o:Obj} {l:List (Addr × Obj)} (h:AllLt a l) (n:Nd l):Nd ((a,o) :: l):=B0i (B0y h) n
theorem B8u {d e:Nat}:∀ {l:List (Addr × Obj)},AllLt d l → d ≤ e → AllLt e l
 | [],J,Y=>trivial
 | J :: Y,⟨h1,h2⟩,hk=>⟨Nat.lt_of_lt_of_le h1 hk,B8u h2 hk⟩
theorem D0h {d x:Nat} {o:Obj} {l:List (Addr × Obj)} (h:d < x) (k:AllLt d l):AllLt x ((d,o) :: l):=⟨h,B8u k (Nat.le_of_lt h)⟩
theorem B6y {w:World} {A:Around} {b:Heap} {L:Addr} {s:Shared} {m:Str → Option Value} {l R:List (Addr × Obj)} {y:Str} {ty:Tok} {Q:Value → Shared → Prop}
 (C:Cal w b L 9 A) (HC:CodeHd b 125 121) (F:Fr b L s.heap m) (D:Led b L s.heap l) (p:Pick (121,tabObj #[]) l R) (hsz:y.cps.size ≤ 1000)
 (h:∀ h' tk (z:LexA) (V:Piece w z y) t1 pl ps,Fr b L h' m → Led b L h' (z.news w.params (lnOf y 0) t1 [] 0 ++ (pl ++ ((121,tabObj ps) :: R))) → V.St 0 pl → Q (.ref z.x) { s with heap:=h',toks:=tk }) :
 wpAny (model Pr w) A (call (.ref 126) [.str y ty]) Q Nev s:=by
 obtain ⟨A₀,base,env,outer,lo,mean,mg,mb,dp,gd,un,B,hf,hke,T,hroom,hunits,X⟩:=C
 have D0:=D.pick p
 have N:=D0.n
 have nd0:=D0.nd
 k_extra "cell_enter"
 intro g' L' h' tk' cells' FG' F' N' Y' B' X' T' l1
 k_lt l1
 k_cells Y'
 simp only [List.cons_append,List.nil_append] at N'
 refine wpAny_mono (E:=Nev) ?_ Mine.idE Mine.B6o
 refine stq s fun tkz=>?_
 refine (let fA:=_; (?_:wpAny _ fA _ _ _ _))
 have HC':=HC.keeps FG'.keep
 have a0:∀ p ∈ R,p.1 ≠ 121:=B0d (D.pick p).nd
 have a1:∀ p ∈ R,p.1 ≠ L' + 1:=B6m l1.2 (Nat.le_succ _)
 have a2:∀ p ∈ R,p.1 ≠ L' + 1 + 1:=B6m l1.2 (Nat.le_add_right _ 2)
 have lR:=l1.2
 revert lR; revert a2; revert a1; revert a0; revert HC'; revert fA; revert tkz; revert N'; rename _=>dT; revert dT; rename _=>dG; revert dG; rename _=>oT; revert oT; rename _=>oG; intro oT dG dT N' tkz fA HC' a0 a1 a2 lR
 have dT':oT.data = .cell (some (.str y ty)):=dT
 k_extra "oz3"
 rename _=>z1; revert z1; rename _=>z2; revert z2; rename _=>N9; revert N9; rename _=>F9; revert F9; rename _=>z3; revert z3; rename _=>z4; revert z4; rename _=>z5; revert z5; rename _=>z6; revert z6; revert tk; rename _=>z7; revert z7; rename _=>z8; revert z8; rename _=>z9; revert z9; rename _=>z10; revert z10; rename _=>z11; revert z11; rename _=>q; revert q; rename _=>z12; revert z12; rename _=>z13; revert z13; rename _=>z14; revert z14; rename _=>z15; revert z15; revert ek; revert qk; rename _=>z16; revert z16; rename _=>z17; revert z17; rename _=>z18; revert z18; rename _=>z19; revert z19; rename _=>z20; revert z20; rename _=>z21; revert z21; rename _=>z22; revert z22; rename _=>l6; revert l6; rename _=>l5; revert l5; rename _=>N5; revert N5; rename _=>F5; revert F5; rename _=>h5; revert h5; rename _=>d; revert d; rename _=>x; revert x; rename _=>z23; revert z23; rename _=>z24; revert z24; revert fdv; rename _=>l4; revert l4; rename _=>l3; revert l3; rename _=>e2; revert e2; rename _=>e1; revert e1; rename _=>tk4; revert tk4; rename _=>h3; revert h3; rename _=>dc; revert dc; rename _=>ct; revert ct; rename _=>t'; revert t'; rename _=>vs; revert vs; rename _=>oc; revert oc; rename _=>c; revert c; rename _=>f; revert f; rename _=>tk3; revert tk3; rename _=>dG'; revert dG'; rename _=>oG'; revert oG'; rename _=>z25; revert z25; rename _=>lg; revert lg; rename _=>z26; revert z26; rename _=>ga; revert ga; rename _=>z27; revert z27; rename _=>z28; revert z28; rename _=>z29; revert z29; rename _=>z30; revert z30; rename _=>z31; revert z31; rename _=>z32; revert z32; rename _=>z33; revert z33; rename _=>z34; revert z34; rename _=>z35; revert z35; rename _=>z36; revert z36; rename _=>q2; revert q2; rename _=>z37; revert z37; rename _=>z38; revert z38; rename _=>z39; revert z39; rename _=>z40; revert z40; rename _=>z41; revert z41; rename _=>z42; revert z42; rename _=>z43; revert z43; rename _=>z44; revert z44; rename _=>z45; revert z45; rename _=>z46; revert z46; rename _=>z47; revert z47; rename _=>z48; revert z48; rename _=>z49; revert z49; rename _=>z50; revert z50; rename _=>z51; revert z51; rename _=>d2; revert d2; rename _=>x2; intro d2 z51 z50 z49 z48 z47 z46 z45 z44 z43 z42 z41 z40 z39 z38 z37 q2 z36 z35 z34 z33 z32 z31 z30 z29 z28 z27 ga z26 lg z25 oG' dG' tk3 f c oc vs t' ct dc h3 tk4 e1 e2 l3 l4 fdv z24 z23 x d h5 F5 N5 l5 l6 z22 z21 z20 z19 z18 z17 z16 qk ek z15 z14 z13 z12 q z11 z10 z9 z8 z7 tk z6 z5 z4 z3 F9 N9 z2 z1
 have D9:Led b L _ _:=⟨N9,by
  have hA:∀ o:Obj,AllLt (L' + 1) ((121,o) :: R):=fun _=>⟨Nat.lt_succ_of_lt l1.1,B8u lR (Nat.le_succ _)⟩
  exact B5v (by assumption) (B5v (D0h (by assumption) (by assumption)) (B5v (by assumption) (B5v (D0h (by assumption) (by assumption)) (B5v (by assumption) (B5v (by assumption) (B5v (by assumption) (B5v (D0h (by assumption) (by assumption)) (B5v (by assumption) (B5v (D0h (Nat.lt_succ_self _) (hA _)) (B5v (hA _) (B0i (B0d nd0) (B0b nd0))))))))))))⟩
 have D10:=(D9.sub (.cons_cons _ (.cons_cons _ (.cons_cons _ (.cons_cons _ (.cons_cons _ (.cons_cons _ (.cons _ (List.Sublist.refl _))))))))).perm (List.Perm.append_left [_,_,_] (List.perm_append_comm_assoc [_,_,_] [_,_] _))
 refine h _ _ ⟨x,d,x2,d2,q,q2,f,fdv,_,_,_,_,_,_,_,_,_,_,_,_,Str.ofString ""⟩ ⟨fun k pl=>∃ gv n2,pl = [(c,oc),(ga,listOf (List.toArray gv) n2),(L' + 1 + 1,oG'),(L' + 1,oT)] ∧ gv.length = k,(by rintro k k' _ _ ⟨gv,n2,rfl,_⟩ ⟨gv',n2',rfl,_⟩; rfl),?ok⟩ _ [(c,oc),(ga,listOf #[] 0),(L' + 1 + 1,oG'),(L' + 1,oT)] _ F9 D10 ⟨[],_,rfl,rfl⟩
 clear F9 N9 D9 D10 D0 D N nd0 h HC a0 a1 a2 F p F5 N5
 intro A b L s m k pl rest Q t C F D hst hk h
 replace D:Led b L s.heap (((f,{ cls:=.type "function",data:=.func fdv }) :: pl) ++ rest):=D
 replace h:∀ h' tk t' pl',Fr b L h' m → Led b L h' (((f,{ cls:=.type "function",data:=.func fdv }) :: pl') ++ rest) → _ → Q _ _:=h
 refine (?_:wpAny (model Pr w) A (call (.ref f) [.int 1 t]) Q Nev s)
 refine Ab.C0i hst fun gv n2 e92 hlen=>?_; subst e92
 obtain ⟨A₀,base,env,outer,lo,mean,mg,mb,dp,gd,un,B,hf,hke,T,hroom,hunits,X⟩:=C
 have N:=D.n
 have hnd:=D.nd
 simp only [List.cons_append,List.nil_append] at N hnd
 refine wpAny_call ?_
 refine' code_nest ?k1 ?k2 ?k3 ?k4 ?k5 ?kA ?kF ?kK ?k6 ?k7 ?k8 ?k9 ?kB ?_ ?c2 ?c3 ?c4 ?c5
 case kA=>exact rfl
 case kF=>exact hf
 case kK=>exact hke
 case k1=>exact B
 case k2=>exact F
 case k3=>exact X
 case k4=>exact N
 case k5=>exact T
 case k6=>exact .head _
 case k7=>exact codeRec_news N (.tail _ (.head _)) e1 e2
 case k8=>k_room
 case k9=>exact BindsTo.of_eq rfl
 case c5=>decide
 case kB=>exact locs rfl
 case c2=>exact rfl
 case c3=>exact rfl
 case c4=>exact rfl
 k_whole
 intro g2 L2 h2 FG2 F2 N2 B2 X2 T2
 refine wpAny_mono (E:=Nev) ?_ Mine.idE Mine.B6o
 obtain ⟨m0,F2⟩:=B3k F2 "count" rfl
 refine stq s fun tkz=>?_
 refine (let fA:=_; (?_:wpAny _ fA _ _ _ _))
 have hlen2:gv.length ≤ 1000:=by exact Ab.om447 hsz hk hlen
 have hsz':y.length ≤ 1000:=hsz
 subst hlen
 k_extra "oz3"
 refine kun_lenL (N2.isList (.tail _ (.tail _ (.head _)))) (k:=(gv.length:Int)) (by simp) (by exact Ab.om90 hlen2) ?_
 k_extra "oz3"
 refine kun_lenL (N2.isList (.tail _ (.tail _ (.head _)))) (k:=(gv.length:Int)) (by simp) (by exact Ab.om90 hlen2) ?_
 k_extra "oz3"
 revert tk; rename _=>N9; revert N9; rename _=>F9; revert F9; rename _=>h9; revert h9; rename _=>hsl; revert hsl; rename _=>k9; revert k9; rename _=>t9; intro k9 hsl h9 F9 N9 tk
 have e9:=C0n (y:=y) (k:=gv.length) hk
 rw [e9] at hsl F9 ⊢
 have hp9:(pieceAt y gv.length).cps.size + gv.length = stepK y gv.length:=by
  unfold pieceAt stepK
  by_cases q:gv.length < y.cps.size
  ·rw [if_pos q,Array.getElem?_eq_getElem q]; show 1 + _ = _; exact Ab.om448
  ·rw [if_neg q,Array.getElem?_eq_none (by exact Ab.om31 hk q)]; show 0 + _ = _; exact Ab.om449
 have hp8:(pieceAt y gv.length).cps.size ≤ 1:=by unfold stepK at hp9; split at hp9 <;> (first | exact Ab.om450 hp9 | exact Ab.om451 hp9 | omega)
 have hga:=N9 _ (.tail _ (.tail _ (.head _)))
 refine D5t rfl _ _ ga gv.toArray n2 hga.1 (by rw [sizeLine_eq]; simp; exact Ab.om452 hlen2 hp9 hp8) fun h10 tk10 acc' c' hk10 hS10 hz10=>?_
 dsimp only
 have F10:Fr g2 L2 h10 _:=⟨F9.ns.at' fun o e=>hk10 _ o (Ne.symm hga.2.1) e,fun a o e=>hk10 a o (fun q=>by rw [q,hga.2.2] at e; cases e) (F9.keep a o e),F9.above⟩
 have D10:Led g2 L2 h10 ([(f,_),(c,oc)] ++ (ga,listOf acc' c') :: ((L' + 1 + 1,oG') :: (L' + 1,oT) :: rest)):=Led.set (o:=listOf gv.toArray n2) ⟨N9,hnd⟩ hS10 fun a ob q e=>hk10 a ob q e
 have N10:=D10.n
 have hnd10:=D10.nd
 simp only [List.cons_append,List.nil_append] at N10
 clear F9 N9
 k_extra "oz3"
 rename _=>z1; revert z1; rename _=>z2; revert z2; rename _=>N11; revert N11; rename _=>F11; intro N11 z2 z1
 exact h _ _ t9 [(c,oc),(ga,listOf acc' c'),(L' + 1 + 1,oG'),(L' + 1,oT)] F11 ⟨N11,hnd10⟩ ⟨acc'.toList,c',rfl,by simp at hz10 ⊢; exact Ab.om453 hp9 hz10⟩
end Mine
end
section
namespace Mine
theorem C8f {w:World} {A:Around} {b:Heap} {L:Addr} {s:Shared} {m:Str → Option Value} {l:List (Addr × Obj)} {a bb n:Int} {ta tb tn:Tok} {Q:Value → Shared → Prop}
 (C:Cal w b L 5 A) (F:Fr b L s.heap m) (D:Led b L s.heap l)
 (hpos:0 < bb) (hlg:bb.natAbs.log2 < 9000) (hsm:(Builtin.Int.intBits a:Int) - n ≤ 4000) (hn:0 ≤ n)
 (h:∀ h' tk r t1 t2,Fr b L h' m → Led b L h' ((r,{ cls:=.type "tuple",data:=.seq #[.int (a / bb) t1,.int (a % bb) t2] }) :: l) → Q (.ref r) { s with heap:=h',toks:=tk }) :
 wpAny (model Pr w) A (call (.ref 21) [.int a ta,.int bb tb,.int n tn]) Q Nev s:=by
 obtain ⟨A₀,base,env,outer,lo,mean,mg,mb,dp,gd,un,B,hf,hke,T,hroom,hunits,X⟩:=C
 have N:=D.n
 k_extra "open_x"
 intro g' L' h' FG' F' N' B' X' T'
 refine wpAny_mono (E:=Nev) ?_ Mine.idE Mine.B6o
 refine (let fA:=_; (?_:wpAny _ fA _ _ _ _))
 obtain ⟨m0,F'⟩:=C7t F' "a" "b" "n" rfl rfl rfl
 k_extra "oz0"
 refine divmod_N F' N' (by exact Ab.om23 hpos) (fun h2 F2 N2=>?_) (Or.inl (PyProof.noPylong_of_log2 hlg))
 rw [Int.fdiv_eq_ediv_of_nonneg a (Int.le_of_lt hpos),Int.fmod_eq_emod_of_nonneg a (Int.le_of_lt hpos)] at N2
 have hlt:∀ p ∈ l,p.1 ≠ h'.objs.size:=fun p hp=>Nat.ne_of_lt (Heap.lt_size (N' p hp).1)
 k_extra "oz0"
 rename _=>z1; revert z1; rename _=>z2; revert z2; rename _=>N8; revert N8; rename _=>F8; intro N8 z2 z1
 exact h _ _ _ _ _ F8 ⟨N8,B0i hlt D.nd⟩
end Mine
end
theorem kw5:True:=by
 (k_with ".setItem ref int" => refine Mine.Halt.mk ?_)
 (k_with ".binaryOp LShift int int" => refine Mine.Halt.mk ?_)
 (k_with ".exec FunctionDef" => refine Mine.Halt.mk ?_)
 exact True.intro
section
namespace Mine
noncomputable def C1y (w:World) (C0:List (Addr × Obj)) (f D:Addr) (n k:Nat):Prop :=
 ∀ (A:Around) (b:Heap) (L:Addr) (s:Shared) (m:Str → Option Value) (R:List (Addr × Obj)) (vs:List Value) (kd:Nat) (x:Int) (tx tl th:Tok) (lo hi:Nat) (Q:Value → Shared → Prop),
  Cal w b L (5 + k) A → Fr b L s.heap m → Led b L s.heap (C0 ++ ((D,listOf vs.toArray kd) :: R)) → 0 ≤ x → x < 2 ^ (n * (hi - lo)) → lo < hi → hi ≤ vs.length → vs.length ≤ 300 → hi - lo ≤ 2 ^ k →
  (∀ h' tk ws kd',Fr b L h' m → Led b L h' (C0 ++ ((D,listOf (vs.take lo ++ (ws ++ vs.drop hi)).toArray kd') :: R)) → IntsAre ws (C3n n x (hi - lo)) → Q .none { s with heap:=h',toks:=tk }) →
  wpAny (model Pr w) A (call (.ref f) [.int x tx,.int (lo:Nat) tl,.int (hi:Nat) th]) Q Nev s
theorem C7k {w:World} {g h:Heap} {L:Addr} {f P c D t0 a1 a2 a3:Addr} {of' ot oc od ot0 o1 o2 o3:Obj} {R:List (Addr × Obj)} {n:Nat} {G:Prop}
  (_:Led g L h ((f,of') :: (P,ot) :: (c,oc) :: (D,od) :: (t0,ot0) :: (a1,o1) :: (a2,o2) :: (a3,o3) :: R))
  (step:∀ k,(∀ j,j < k → C1y w [(f,of'),(c,oc),(a1,o1),(a2,o2),(a3,o3)] f D n j) → C1y w [(f,of'),(c,oc),(a1,o1),(a2,o2),(a3,o3)] f D n k)
  (use:(∀ k,C1y w [(f,of'),(c,oc),(a1,o1),(a2,o2),(a3,o3)] f D n k) → G):G :=
 use fun k=>Nat.strongRecOn k fun k ih=>step k fun j hj=>ih j hj
theorem C1r {w:World} {A:Around} {b:Heap} {L:Addr} {s:Shared} {m:Str → Option Value} {l tl R:List (Addr × Obj)} {a:Int} {n:Nat} {o:Option (Addr × Obj)} {ta tn:Tok} {Q:Value → Shared → Prop}
 (C:Cal w b L 20 A) (HC:CodeHd b 34 30) (F:Fr b L s.heap m) (D:Led b L s.heap l) (hp:l.Perm (tl ++ R)) (st:TabSt 30 "_int2digits.<locals>.inner" 32 4 o tl) (ha:0 ≤ a) (hn0:0 < n) (hn1:n < 1000) (hcn:B6q n a ≤ 256)
 (h:∀ h' tk r c oc vs t ws kd,Fr b L h' m → Led b L h' ((r,listOf (List.toArray ws) kd) :: (30,tabObj #[rawInt 32,rawInt 4,.ref c]) :: (c,oc) :: R) → oc.data = .fields vs → vs[1]? = some (.str "_int2digits.<locals>.inner" t) → (∀ x,o = some x → x = (c,oc)) → IntsAre ws (C3n n a (B6q n a)) → Q (.ref r) { s with heap:=h',toks:=tk }) :
 wpAny (model Pr w) A (call (.ref 35) [.int a ta,.int (n:Nat) tn]) Q Nev s:=by
 obtain ⟨A₀,base,env,outer,lo,mean,mg,mb,dp,gd,un,B,hf,hke,T,hroom,hunits,X⟩:=C
 have N:=D.n
 have hnd:=D.nd
 have hn:0 < (n:Int):=by exact Ab.om64 hn0 hn1
 have hn2:(n:Int) < 1000:=by exact Ab.om65 hn0 hn1
 have hcE:=F0l (a:=a) hn0
 have hc0:0 ≤ ((Builtin.Int.intBits a:Nat) + (n:Int) - 1).fdiv n:=by rw [hcE]; exact Int.natCast_nonneg _
 have hc:((Builtin.Int.intBits a:Nat) + (n:Int) - 1).fdiv n ≤ 256:=by rw [hcE]; exact Ab.om319 hcn hcE
 k_extra "cell_enter"
 intro g' L' h' tk' cells' FG' F' N' Y' B' X' T' l1
 k_cells Y'
 simp only [List.cons_append,List.nil_append] at N'
 refine wpAny_mono (E:=Nev) ?_ Mine.idE Mine.B6o
 refine stq s fun tkz=>?_
 refine (let fA:=_; (?_:wpAny _ fA _ _ _ _))
 have HC':=HC.keeps FG'.keep
 have a1:∀ p ∈ l,p.1 ≠ L' + 1:=fun p hp=>Nat.ne_of_lt (Nat.lt_of_lt_of_le (l1 p hp) (Nat.le_add_right _ 1))
 have a2:∀ p ∈ l,p.1 ≠ L' + 1 + 1:=fun p hp=>Nat.ne_of_lt (Nat.lt_of_lt_of_le (l1 p hp) (Nat.le_add_right _ 2))
 have a3:∀ p ∈ l,p.1 ≠ L' + 1 + 1 + 1:=fun p hp=>Nat.ne_of_lt (Nat.lt_of_lt_of_le (l1 p hp) (Nat.le_add_right _ 3))
 revert a3; revert a2; revert a1; revert HC'; revert fA; revert tkz; revert N'; rename _=>dN; revert dN; rename _=>dA; revert dA; rename _=>dI; revert dI; rename _=>oN; revert oN; rename _=>oA; revert oA; rename _=>oI; intro oA oN dI dA dN N' tkz fA HC' a1 a2 a3
 replace dN:oN.data = .cell (some (.int (n:Nat) tn)):=dN
 k_extra "oz0"
 refine Halt.out ?_
 revert fq; revert tk; rename _=>z1; revert z1; rename _=>dA'; revert dA'; rename _=>NA; revert NA; rename _=>FA; revert FA; rename _=>oA'; revert oA'; rename _=>hh; revert hh; rename _=>lA; revert lA; rename _=>e3; revert e3; rename _=>z2; revert z2; rename _=>eA; revert eA; rename _=>sA; revert sA; rename _=>nA; revert nA; rename _=>iA; revert iA; rename _=>z3; revert z3; rename _=>DA; revert DA; rename _=>z4; revert z4; rename _=>z5; revert z5; rename _=>tA; intro z5 z4 DA z3 iA nA sA eA z2 e3 lA hh oA' FA NA dA' z1 tk fq
 have G1:Led g' L' hh ((DA,_) :: (tA,_) :: (L' + 1 + 1 + 1,_) :: (L' + 1 + 1,_) :: (L' + 1,_) :: l):=⟨NA,by
  refine B0i ?_ (B0i ?_ (B0i ?_ (B0i ?_ (B0i ?_ hnd))))
  all_goals (repeat' (refine List.forall_mem_cons.mpr ⟨?_,?_⟩))
  all_goals (first | k_ne | k_all | skip)
  all_goals (fail "left")⟩
 refine nestDef_K rfl rfl rfl ?_
 refine B5u FA G1 T' HC' rfl ((List.Perm.cons _ (List.Perm.cons _ (List.Perm.cons _ (List.Perm.cons _ (List.Perm.cons _ hp))))).trans (List.perm_append_comm_assoc [_,_,_,_,_] tl R)) st rfl ?_
 intro f c' oc vs t ctv doc h2 tk2 F2 G2 hd hv hsame
 dsimp only at F2 ⊢
 refine (let oF:=_; have G2:Led g' L' h2 ((f,oF) :: _):=G2; ?_)
 obtain ⟨m0,F2⟩:=B3k F2 "a" rfl
 refine stq s fun tk2=>?_
 have G3:Led g' L' h2 ((L' + 1 + 1 + 1,oI) :: _):=G2.perm (List.perm_append_comm_assoc [_,_,_,_,_] [_] _)
 have q0:=B0d G3.nd
 have q1:=q0 _ (.head _)
 have q2:=q0 _ (.tail _ (.head _))
 have q3:=q0 _ (.tail _ (.tail _ (.head _)))
 have q4:=q0 _ (.tail _ (.tail _ (.tail _ (.head _))))
 have q5:=q0 _ (.tail _ (.tail _ (.tail _ (.tail _ (.head _)))))
 have q6:=fun p hp=>q0 p (.tail _ (.tail _ (.tail _ (.tail _ (.tail _ hp)))))
 have q7:=q6 _ (.head _)
 have q8:=q6 _ (.tail _ (.head _))
 have q9:=fun p hp=>q6 p (.tail _ (.tail _ hp))
 dsimp only at q1 q2 q3 q4 q5 q7 q8
 have N2:=G2.n
 clear G1 NA F N D FA q0 q6
 k_extra "oz0"
 ·revert fq; rename _=>hne; revert hne; rename _=>z1; revert z1; rename _=>dI'; revert dI'; rename _=>NC; revert NC; rename _=>FC; revert FC; rename _=>oI'; revert oI'; rename _=>hC; intro oI' FC NC dI' z1 hne fq
  refine Halt.out ?_
  have G4:Led g' L' _ ((f,_) :: (30,_) :: (c',oc) :: (DA,_) :: (tA,_) :: (L' + 1 + 1 + 1,oI') :: (L' + 1 + 1,oA') :: (L' + 1,oN) :: R):=⟨NC,G2.nd⟩
  refine C7k (w:=w) (n:=n) G4 ?step fun rec=>?_
  case step =>
   clear G4 NC FC G2 G3 h hp st hc hc0 hcE hcn ha iA sA eA e3 lA dI dA hsame q1 q2 q3 q4 q5 q7 q8 q9 hne a1 a2 a3 hnd l1 HC
   intro k ih A b L s m R vs kd x tx tl th lo hi Q C F D hx hxl hlt hhi hvs hk h
   obtain ⟨A₀,base,env,outer,lo',mean,mg,mb,dp,gd,un,B,hf,hke,T,hroom,hunits,X⟩:=C
   have N:=D.n
   have hnd:=D.nd
   simp only [List.cons_append,List.nil_append] at N hnd
   refine wpAny_call ?_
   refine' code_nest ?k1 ?k2 ?k3 ?k4 ?k5 ?kA ?kF ?kK ?k6 ?k7 ?k8 ?k9 ?kB ?_ ?c2 ?c3 ?c4 ?c5
   case kA=>exact rfl
   case kF=>exact hf
   case kK=>exact hke
   case k1=>exact B
   case k2=>exact F
   case k3=>exact X
   case k4=>exact N
   case k5=>exact T
   case k6=>exact .head _
   case k7=>exact codeRec_news N (.tail _ (.head _)) hd hv
   case k8=>k_room
   case k9=>exact BindsTo.of_eq rfl
   case c5=>decide
   case kB=>exact locs rfl
   case c2=>exact rfl
   case c3=>exact rfl
   case c4=>exact rfl
   k_whole
   intro g2 L2 h2 FG2 F2 N2 B2 X2 T2
   refine wpAny_mono (E:=Nev) ?_ Mine.idE Mine.B6o
   obtain ⟨m0,F2⟩:=C7t F2 "x" "L" "R" rfl rfl rfl
   refine stq s fun tk=>?_
   refine (let fE:=_; let fA:=_; (?_:wpAny _ fA (execs _ fE) _ _ _))
   have hs:=D7u lo hi n hlt
   have hs0:0 ≤ (((lo:Int) + (hi:Int)).fdiv (2 ^ Int.toNat 1) - (lo:Int)) * (n:Int):=by rw [hs]; exact Int.natCast_nonneg _
   have hm:=C6t lo hi
   have hnd':=B0b (B0b (B0b (B0b (B0b hnd))))
   have p1:=B0d hnd _ (.tail _ (.tail _ (.tail _ (.tail _ (.head _)))))
   have p2:=B0d (B0b hnd) _ (.tail _ (.tail _ (.tail _ (.head _))))
   have p3:=B0d (B0b (B0b hnd)) _ (.tail _ (.tail _ (.head _)))
   have p4:=B0d (B0b (B0b (B0b hnd))) _ (.tail _ (.head _))
   have p5:=B0d (B0b (B0b (B0b (B0b hnd)))) _ (.head _)
   have p6:=B0d hnd'
   dsimp only at p1 p2 p3 p4 p5 p6
   k_extra "oz0"
   ·revert fq; revert tk; rename _=>hlo; intro tk fq
    obtain rfl:hi = lo + 1:=by exact Ab.om72 hlo
    refine Halt.out ?_
    refine D4f F2 N2 (.tail p1.symm (.tail p2.symm (.tail p3.symm (.tail p4.symm (.tail p5.symm (.head p6)))))) (by exact Ab.om4 hhi) (by exact Ab.om330 hvs hhi) fun h3 F3 N3=>?_
    k_extra "oz0"
    rename _=>z1; revert z1; rename _=>z2; revert z2; rename _=>N8; revert N8; rename _=>F8; intro N8 z2 z1
    have hx':x % 2 ^ n = x:=Int.emod_eq_of_lt hx (by simpa using hxl)
    refine h _ _ [.int x tx] kd F8 ?_ (by rw [show lo + 1 - lo = 1 by exact Ab.om60]; show IntsAre _ [x % 2 ^ n]; rw [hx']; exact .cons _ _ .nil)
    rw [D4e _ (by exact Ab.om4 hhi)] at N8
    exact ⟨N8,hnd⟩
   ·revert fq; revert tk; rename _=>z1; revert z1; rename _=>z2; revert z2; rename _=>z3; revert z3; rename _=>z4; revert z4; rename _=>z5; revert z5; rename _=>z6; revert z6; rename _=>z7; revert z7; rename _=>z8; revert z8; rename _=>z9; revert z9; rename _=>z10; revert z10; rename _=>z11; revert z11; rename _=>z12; revert z12; rename _=>hne2; intro z12 z11 z10 z9 z8 z7 z6 z5 z4 z3 z2 z1 tk fq
    refine Halt.out ?_
    have hlt2:lo + 1 < hi:=by exact Ab.om73 hlt hne2
    obtain ⟨j,rfl⟩:∃ j,k = j + 1:=⟨k - 1,by
     have:k ≠ 0:=fun q=>by rw [q] at hk; simp at hk; exact Ab.om74 hlt2 hk
     exact Ab.om75 this⟩
    have hk2:hi - lo ≤ 2 * 2 ^ j:=by rw [Nat.pow_succ] at hk; exact Ab.om76 hk
    have hsT:((((lo:Int) + (hi:Int)).fdiv (2 ^ Int.toNat 1) - (lo:Int)) * (n:Int)).toNat = ((lo + hi) / 2 - lo) * n:=by rw [hs,Int.toNat_natCast]
    refine lshift_int hs0 (by rw [hsT,hs]; exact C9r hx hxl (by exact Ab.om77 hn1) (by exact Ab.om331 hhi hvs) hlt) ?_
    k_extra "oz0"
    revert fq; revert tk; rename _=>N4; revert N4; rename _=>F4; revert F4; rename _=>h4; intro F4 N4 tk fq
    refine Halt.out ?_
    have ex:Builtin.bitXor x (x.fdiv (2 ^ ((((lo:Int) + (hi:Int)).fdiv (2 ^ Int.toNat 1) - (lo:Int)) * (n:Int)).toNat) * 2 ^ ((((lo:Int) + (hi:Int)).fdiv (2 ^ Int.toNat 1) - (lo:Int)) * (n:Int)).toNat) = x % 2 ^ (n * ((lo + hi) / 2 - lo)):=by
     rw [hsT,D3m _ _ hx,Nat.mul_comm]
    have eu:x.fdiv (2 ^ ((((lo:Int) + (hi:Int)).fdiv (2 ^ Int.toNat 1) - (lo:Int)) * (n:Int)).toNat) = x / 2 ^ (n * ((lo + hi) / 2 - lo)):=by
     rw [hsT,Int.fdiv_eq_ediv_of_nonneg _ (Int.le_of_lt (B0q _)),Nat.mul_comm]
    rw [ex,hm]
    have hpos:(0:Int) < 2 ^ (n * ((lo + hi) / 2 - lo)):=B0q _
    refine ih j (Nat.lt_succ_self j) _ _ _ _ _ R vs kd _ _ _ _ lo ((lo + hi) / 2) _ (Cal.mk' B2 X2 T2 rfl rfl (by k_room) (by k_units) rfl) F4 ⟨N4,hnd⟩ (Int.emod_nonneg _ (Int.ne_of_gt hpos)) (Int.emod_lt_of_pos _ hpos) (by exact Ab.om78 hlt2) (by exact Ab.om79 hhi hlt2) hvs (by exact Ab.om80 hlt2 hk) fun h5 tk5 w1 kd1 F5 D5 i1=>?_
    have N5:=D5.n
    have hnd5:=D5.nd
    have hl1:=(B2s i1).trans (B8m _ _ _)
    simp only [List.cons_append,List.nil_append] at N5 hnd5
    clear F4 N4
    dsimp only at F5 N5 ⊢
    k_extra "oz0"
    refine Halt.out ?_
    rw [eu,hm]
    have hl2:(vs.take lo ++ (w1 ++ vs.drop ((lo + hi) / 2))).length = vs.length:=by simp [hl1]; exact Ab.om332 hhi hlt2 hl1
    refine ih j (Nat.lt_succ_self j) _ _ _ _ _ R (vs.take lo ++ (w1 ++ vs.drop ((lo + hi) / 2))) kd1 _ _ _ _ ((lo + hi) / 2) hi _ (Cal.mk' B2 X2 T2 rfl rfl (by k_room) (by k_units) rfl) F5 ⟨N5,hnd5⟩ (Int.ediv_nonneg hx (Int.le_of_lt hpos)) (B7e hxl (by rw [← Nat.mul_add]; congr 1; exact Ab.om333 hlt2)) (by exact Ab.om81 hlt2) (by exact Ab.om334 hhi hl2) (by exact Ab.om335 hvs hl2) (by exact Ab.om82 hlt2 hk) fun h6 tk6 w2 kd2 F6 D6 i2=>?_
    have N6:=D6.n
    have hnd6:=D6.nd
    rw [C9n (by exact Ab.om14 hhi hlt2 hl2) hl1 (by exact Ab.om9 hlt2),D0y (by exact Ab.om14 hhi hlt2 hl2) hl1 (by exact Ab.om9 hlt2) (by exact Ab.om30 hlt2)] at N6 hnd6
    simp only [List.cons_append,List.nil_append,List.append_assoc] at N6 hnd6
    clear F5 N5
    dsimp only at F6 N6 ⊢
    k_extra "oz0"
    rename _=>z1; revert z1; rename _=>z2; revert z2; rename _=>N9; revert N9; rename _=>F9; intro N9 z2 z1
    refine h _ _ (w1 ++ w2) kd2 F9 ⟨by rw [List.append_assoc]; exact N9,hnd6⟩ ?_
    have hj:=C3m n ((lo + hi) / 2 - lo) (hi - (lo + hi) / 2) x
    rw [show (lo + hi) / 2 - lo + (hi - (lo + hi) / 2) = hi - lo by exact Ab.om336 hlt2] at hj
    rw [hj,← C3l n _ x]
    exact B8d i1 i2
  have hnA:nA = B6q n a:=by
   have:=e3 hc0
   rw [hcE] at this
   omega
  have hlA:(List.replicate (((Builtin.Int.intBits a:Nat) + (n:Int) - 1).fdiv n).toNat [Value.int 0 tkz]).flatten.length = nA:=by simpa using sA
  refine rec 8 _ _ _ _ _ ((30,_) :: (tA,_) :: R) (List.replicate (((Builtin.Int.intBits a:Nat) + (n:Int) - 1).fdiv n).toNat [Value.int 0 tkz]).flatten 0 a ta _ _ 0 nA _ (Cal.mk' B' X' T' rfl rfl (by k_room) (by k_units) rfl) FC (G4.perm (perm8 _ _ _ _ _ _ _ _ _)) ha (by rw [hnA]; exact C8l hn0 ha) (by rw [hnA]; exact D6f hn0 hne) (by exact Ab.om338 eA hlA) (by exact Ab.om339 hcn hcE eA hnA hlA) (by exact Ab.om340 hcn hcE eA hnA hlA) fun h5 tk5 w1 kd1 F5 D5 i1=>?_
  have N5:=D5.n
  have hnd5:=D5.nd
  rw [List.drop_of_length_le (by exact Ab.om85 eA hlA),List.take_zero,List.nil_append,List.append_nil] at N5 hnd5
  simp only [List.cons_append,List.nil_append] at N5 hnd5
  clear FC NC G4 G2 G3 rec D5
  k_extra "oz0"
  rename _=>z1; revert z1; rename _=>z2; revert z2; rename _=>kN; revert kN; rename _=>kF; intro kN z2 z1
  have D9:Led b L _ _:=⟨kN,hnd5⟩
  have D10:=(D9.sub (.cons _ (.cons_cons _ (.cons _ (.cons _ (.cons _ (.cons_cons _ (.cons_cons _ (.cons _ (List.Sublist.refl R))))))))))
  refine h _ _ DA c' oc vs t w1 kd1 kF (D10.perm (List.perm_middle (l₁:=[_,_])).symm) hd hv hsame ?_
  rw [Nat.sub_zero,hnA] at i1
  exact i1
 ·rename _=>z1; revert z1; rename _=>z2; revert z2; rename _=>kN; revert kN; rename _=>kF; revert kF; revert fq; rename _=>ha0; revert ha0; rename _=>z3; revert z3; rename _=>dI'; revert dI'; rename _=>N9; revert N9; rename _=>F9; revert F9; rename _=>oI'; revert oI'; rename _=>h9; intro oI' F9 N9 dI' z3 ha0 fq kF kN z2 z1
  have D9:Led b L _ ((f,_) :: (30,_) :: (c',oc) :: (DA,_) :: (tA,_) :: (L' + 1 + 1 + 1,oI') :: (L' + 1 + 1,oA') :: (L' + 1,oN) :: R):=⟨kN,G2.nd⟩
  have D10:=(D9.sub (.cons _ (.cons_cons _ (.cons_cons _ (.cons_cons _ (.cons _ (.cons _ (.cons _ (.cons _ (List.Sublist.refl R))))))))))
  refine h _ _ DA c' oc vs t _ 0 kF (D10.perm (List.perm_middle (l₁:=[_,_]))) hd hv hsame ?_
  subst ha0
  rw [hcE,D1b hn0]
  exact .nil
end Mine
end
section
namespace Mine
noncomputable def C9c (w:World) (C0:List (Addr × Obj)) (f dA:Addr) (n:Nat) (vs:List Value) (kd:Nat) (ds:List Int) (k:Nat):Prop :=
 ∀ (A:Around) (b:Heap) (L:Addr) (s:Shared) (m:Str → Option Value) (R:List (Addr × Obj)) (tl th:Tok) (lo hi:Nat) (Q:Value → Shared → Prop),
  Cal w b L (5 + k) A → Fr b L s.heap m → Led b L s.heap (C0 ++ ((dA,listOf vs.toArray kd) :: R)) → lo < hi → hi ≤ ds.length → hi - lo ≤ 2 ^ k →
  (∀ h' tk t,Fr b L h' m → Led b L h' (C0 ++ ((dA,listOf vs.toArray kd) :: R)) → Q (.int (B6f n ((ds.drop lo).take (hi - lo))) t) { s with heap:=h',toks:=tk }) →
  wpAny (model Pr w) A (call (.ref f) [.int (lo:Nat) tl,.int (hi:Nat) th]) Q Nev s
theorem D0o {w:World} {g h:Heap} {L:Addr} {f P c dA a1 a2 a3:Addr} {of' ot oc o1 o2 o3:Obj} {vs:List Value} {kd:Nat} {ds:List Int} {R:List (Addr × Obj)} {n:Nat} {G:Prop}
  (_:Led g L h ((f,of') :: (P,ot) :: (c,oc) :: (a1,o1) :: (a2,o2) :: (a3,o3) :: (dA,listOf vs.toArray kd) :: R))
  (step:∀ k,(∀ j,j < k → C9c w [(f,of'),(c,oc),(a1,o1),(a2,o2),(a3,o3)] f dA n vs kd ds j) → C9c w [(f,of'),(c,oc),(a1,o1),(a2,o2),(a3,o3)] f dA n vs kd ds k)
  (use:(∀ k,C9c w [(f,of'),(c,oc),(a1,o1),(a2,o2),(a3,o3)] f dA n vs kd ds k) → G):G :=
 use fun k=>Nat.strongRecOn k fun k ih=>step k fun j hj=>ih j hj
theorem C4g {w:World} {A:Around} {b:Heap} {L:Addr} {s:Shared} {m:Str → Option Value} {l tl R:List (Addr × Obj)} {vs:List Value} {ds:List Int} {dA:Addr} {kd n:Nat} {o:Option (Addr × Obj)} {tn:Tok} {Q:Value → Shared → Prop}
 (C:Cal w b L 20 A) (HC:CodeHd b 41 37) (F:Fr b L s.heap m) (D:Led b L s.heap ((dA,listOf vs.toArray kd) :: l)) (hp:l.Perm (tl ++ R)) (st:TabSt 37 "_digits2int.<locals>.inner" 47 4 o tl) (iA:IntsAre vs ds) (hd:C1z n ds) (hlen:ds.length ≤ 256) (hn0:0 < n) (hn1:n < 1000)
 (h:∀ h' tk t' c oc vs' t,Fr b L h' m → Led b L h' ((37,tabObj #[rawInt 47,rawInt 4,.ref c]) :: (c,oc) :: (dA,listOf vs.toArray kd) :: R) → oc.data = .fields vs' → vs'[1]? = some (.str "_digits2int.<locals>.inner" t) → (∀ x,o = some x → x = (c,oc)) → Q (.int (B6f n ds) t') { s with heap:=h',toks:=tk }) :
 wpAny (model Pr w) A (call (.ref 42) [.ref dA,.int (n:Nat) tn]) Q Nev s:=by
 obtain ⟨A₀,base,env,outer,lo,mean,mg,mb,dp,gd,un,B,hf,hke,T,hroom,hunits,X⟩:=C
 have N:=D.n
 have hnd:=D.nd
 have hn:0 < (n:Int):=by exact Ab.om64 hn0 hn1
 have hn2:(n:Int) < 1000:=by exact Ab.om65 hn0 hn1
 k_extra "cell_enter"
 intro g' L' h' tk' cells' FG' F' N' Y' B' X' T' l1
 k_cells Y'
 simp only [List.cons_append,List.nil_append] at N'
 refine wpAny_mono (E:=Nev) ?_ Mine.idE Mine.B6o
 refine stq s fun tkz=>?_
 refine (let fA:=_; (?_:wpAny _ fA _ _ _ _))
 have HC':=HC.keeps FG'.keep
 k_extra "oz0"
 refine Halt.out ?_
 revert fq; revert HC'; revert fA; revert tkz; revert N'; rename _=>d1; revert d1; rename _=>d2; revert d2; rename _=>d3; revert d3; rename _=>o1; revert o1; rename _=>o2; revert o2; rename _=>o3; intro o2 o1 d3 d2 d1 N' tkz fA HC' fq
 have n1:∀ p ∈ (dA,listOf vs.toArray kd) :: l,p.1 ≠ L' + 1:=fun p hp=>Nat.ne_of_lt (Nat.lt_of_lt_of_le (l1 p hp) (Nat.le_add_right _ 1))
 have n2:∀ p ∈ (dA,listOf vs.toArray kd) :: l,p.1 ≠ L' + 1 + 1:=fun p hp=>Nat.ne_of_lt (Nat.lt_of_lt_of_le (l1 p hp) (Nat.le_add_right _ 2))
 have n3:∀ p ∈ (dA,listOf vs.toArray kd) :: l,p.1 ≠ L' + 1 + 1 + 1:=fun p hp=>Nat.ne_of_lt (Nat.lt_of_lt_of_le (l1 p hp) (Nat.le_add_right _ 3))
 have G1:Led g' L' h' ((L' + 1 + 1 + 1,o3) :: (L' + 1 + 1,o2) :: (L' + 1,o1) :: (dA,listOf vs.toArray kd) :: l):=⟨N',B0i (fun p hp=>by
   rcases List.mem_cons.mp hp with rfl | hp
   ·exact Nat.ne_of_lt (Nat.lt_succ_self _)
   ·rcases List.mem_cons.mp hp with rfl | hp
    ·exact Nat.ne_of_lt (Nat.lt_succ_of_lt (Nat.lt_succ_self _))
    ·exact n3 p hp) (B0i (fun p hp=>by
   rcases List.mem_cons.mp hp with rfl | hp
   ·exact Nat.ne_of_lt (Nat.lt_succ_self _)
   ·exact n2 p hp) (B0i n1 hnd))⟩
 refine nestDef_K rfl rfl rfl ?_
 refine B5u F' G1 T' HC' rfl ((List.Perm.cons _ (List.Perm.cons _ (List.Perm.cons _ (List.Perm.cons _ hp)))).trans (List.perm_append_comm_assoc [_,_,_,_] tl R)) st rfl ?_
 intro f c' oc vs' t ctv doc h2 tk2 F2 G2 hd' hv hsame
 dsimp only at F2 ⊢
 refine (let oF:=_; have G2:Led g' L' h2 ((f,oF) :: _):=G2; ?_)
 replace d1:o1.data = .cell (some (.ref dA)):=d1
 replace d2:o2.data = .cell (some (.int (n:Nat) tn)):=d2
 have G3:Led g' L' h2 ((L' + 1 + 1 + 1,o3) :: _):=G2.perm (List.perm_append_comm_assoc [_,_,_] [_] _)
 have q0:=B0d G3.nd
 have q1:=q0 _ (.head _)
 have q2:=q0 _ (.tail _ (.head _))
 have q3:=q0 _ (.tail _ (.tail _ (.head _)))
 have q6:=fun p hp=>q0 p (.tail _ (.tail _ (.tail _ hp)))
 have q7:=q6 _ (.head _)
 have q8:=q6 _ (.tail _ (.head _))
 have q9:=q6 _ (.tail _ (.tail _ (.head _)))
 have q10:∀ p ∈ R,p.1 ≠ L' + 1 + 1 + 1:=fun p hp=>q6 p (.tail _ (.tail _ (.tail _ hp)))
 dsimp only at q1 q2 q3 q7 q8 q9
 have N2:News g' L' h2 ((f,_) :: (37,_) :: (c',oc) :: (L' + 1 + 1 + 1,o3) :: (L' + 1 + 1,o2) :: (L' + 1,o1) :: (dA,listOf vs.toArray kd) :: R):=G2.n
 clear G1 N' F N D q0 q6
 k_extra "oz0"
 ·rename _=>hne; revert hne; revert fq; rename _=>z1; revert z1; rename _=>dI'; revert dI'; rename _=>NC; revert NC; rename _=>FC; revert FC; rename _=>oI'; revert oI'; rename _=>hC; intro oI' FC NC dI' z1 fq hne
  refine Halt.out ?_
  have G4:Led g' L' _ ((f,_) :: (37,_) :: (c',oc) :: (L' + 1 + 1 + 1,oI') :: (L' + 1 + 1,o2) :: (L' + 1,o1) :: (dA,listOf vs.toArray kd) :: R):=⟨NC,G2.nd⟩
  refine D0o (w:=w) (n:=n) (ds:=ds) G4 ?step fun rec=>?_
  case step =>
   clear G4 NC FC G2 G3 h hp st hsame q1 q2 q3 q7 q8 q9 q10 hne HC n1 n2 n3 hnd l1
   intro k ih A b L s m R tl th lo hi Q C F D hlt hhi hk h
   obtain ⟨A₀,base,env,outer,lo',mean,mg,mb,dp,gd,un,B,hf,hke,T,hroom,hunits,X⟩:=C
   have N:=D.n
   have hnd:=D.nd
   simp only [List.cons_append,List.nil_append] at N hnd
   refine wpAny_call ?_
   refine' code_nest ?k1 ?k2 ?k3 ?k4 ?k5 ?kA ?kF ?kK ?k6 ?k7 ?k8 ?k9 ?kB ?_ ?c2 ?c3 ?c4 ?c5
   case kA=>exact rfl
   case kF=>exact hf
   case kK=>exact hke
   case k1=>exact B
   case k2=>exact F
   case k3=>exact X
   case k4=>exact N
   case k5=>exact T
   case k6=>exact .head _
   case k7=>exact codeRec_news N (.tail _ (.head _)) hd' hv
   case k8=>k_room
   case k9=>exact BindsTo.of_eq rfl
   case c5=>decide
   case kB=>exact locs rfl
   case c2=>exact rfl
   case c3=>exact rfl
   case c4=>exact rfl
   k_whole
   intro g2 L2 h2 FG2 F2 N2 B2 X2 T2
   refine wpAny_mono (E:=Nev) ?_ Mine.idE Mine.B6o
   obtain ⟨m0,F2⟩:=B3j F2 "L" "R" rfl rfl
   refine stq s fun tk=>?_
   refine (let fA:=_; (?_:wpAny _ fA _ _ _ _))
   have hs:=D7u lo hi n hlt
   have hs0:0 ≤ (((lo:Int) + (hi:Int)).fdiv (2 ^ Int.toNat 1) - (lo:Int)) * (n:Int):=by rw [hs]; exact Int.natCast_nonneg _
   have hm:=C6t lo hi
   k_extra "oz0"
   ·revert fq; revert tk; rename _=>hlo; intro tk fq
    obtain rfl:hi = lo + 1:=by exact Ab.om72 hlo
    obtain ⟨d,t9,e1,e2⟩:=C3a iA (i:=lo) (by exact Ab.om4 hhi)
    refine Halt.out ?_
    refine D0m N2 (.tail _ (.tail _ (.tail _ (.tail _ (.tail _ (.head _)))))) (by exact Ab.om344) (by exact Ab.om345 hlen hhi) (by simpa using e2) (by with_unfolding_all rfl) ?_
    k_extra "oz0"
    rename _=>z1; revert z1; rename _=>z2; revert z2; rename _=>N8; revert N8; rename _=>F8; intro N8 z2 z1
    have hq:∀ tk,Q (.int d t9) { s with heap:=h2,toks:=tk }:=fun tk=>by
     have:=h _ tk t9 F8 ⟨N8,hnd⟩
     rwa [D6b e1,show B6f n [d] = d by rw [Mine.B7d,Mine.D2v,Int.mul_zero,Int.add_zero]] at this
    exact hq _
   ·revert fq; revert tk; rename _=>N4; revert N4; rename _=>F4; revert F4; rename _=>h4; revert h4; rename _=>z1; revert z1; rename _=>z2; revert z2; rename _=>z3; revert z3; rename _=>z4; revert z4; rename _=>z5; revert z5; rename _=>z6; revert z6; rename _=>hne2; intro z6 z5 z4 z3 z2 z1 h4 F4 N4 tk fq
    refine Halt.out ?_
    have hlt2:lo + 1 < hi:=by exact Ab.om73 hlt hne2
    obtain ⟨j,rfl⟩:∃ j,k = j + 1:=⟨k - 1,by
     have:k ≠ 0:=fun q=>by rw [q] at hk; simp at hk; exact Ab.om74 hlt2 hk
     exact Ab.om75 this⟩
    have hk2:hi - lo ≤ 2 * 2 ^ j:=by rw [Nat.pow_succ] at hk; exact Ab.om76 hk
    have hsT:((((lo:Int) + (hi:Int)).fdiv (2 ^ Int.toNat 1) - (lo:Int)) * (n:Int)).toNat = ((lo + hi) / 2 - lo) * n:=by rw [hs,Int.toNat_natCast]
    rw [hm]
    refine ih j (Nat.lt_succ_self j) _ _ _ _ _ R _ _ ((lo + hi) / 2) hi _ (Cal.mk' B2 X2 T2 rfl rfl (by k_room) (by k_units) rfl) F4 ⟨N4,hnd⟩ (by exact Ab.om81 hlt2) (by exact Ab.om346 hhi) (by exact Ab.om82 hlt2 hk) fun h5 tk5 t5 F5 D5=>?_
    have N5:=D5.n
    simp only [List.cons_append,List.nil_append] at N5
    clear F4 N4 D5
    dsimp only at F5 N5 ⊢
    k_extra "oz0"
    refine Halt.out ?_
    refine lshift_int hs0 (by rw [hs]; exact C5z (C8i hd _ _) (by simp; exact Ab.om347 hlen hhi hlt2) (by exact Ab.om77 hn1) (shb hn1 (by exact Ab.om348 hlen hhi))) ?_
    k_extra "oz0"
    refine Halt.out ?_
    rw [hm]
    refine ih j (Nat.lt_succ_self j) _ _ _ _ _ R _ _ lo ((lo + hi) / 2) _ (Cal.mk' B2 X2 T2 rfl rfl (by k_room) (by k_units) rfl) F5 ⟨N5,hnd⟩ (by exact Ab.om78 hlt2) (by exact Ab.om79 hhi hlt2) (by exact Ab.om80 hlt2 hk) fun h6 tk6 t6 F6 D6=>?_
    have N6:=D6.n
    simp only [List.cons_append,List.nil_append] at N6
    clear F5 N5 D6
    dsimp only at F6 N6 ⊢
    k_extra "oz0"
    rename _=>z1; revert z1; rename _=>z2; revert z2; rename _=>N8; revert N8; rename _=>F8; intro N8 z2 z1
    have hq:∀ tk t,Q (.int (B6f n (List.take (hi - lo) (List.drop lo ds))) t) { s with heap:=h6,toks:=tk }:=fun tk t=>h _ tk t F8 ⟨N8,hnd⟩
    have e:B6f n (List.take (hi - (lo + hi) / 2) (List.drop ((lo + hi) / 2) ds)) * 2 ^ ((((lo:Int) + (hi:Int)).fdiv (2 ^ Int.toNat 1) - (lo:Int)) * (n:Int)).toNat + B6f n (List.take ((lo + hi) / 2 - lo) (List.drop lo ds)) = B6f n (List.take (hi - lo) (List.drop lo ds)):=by
     rw [D6c ds (lo:=lo) (mid:=(lo + hi) / 2) (hi:=hi) (by exact Ab.om9 hlt2) (by exact Ab.om30 hlt2),C3k,hsT,Int.add_comm,Int.mul_comm]
     congr 3
     rw [Nat.mul_comm]
     congr 1
     simp
     exact Ab.om349 hlen hhi hlt2
    rw [hm] at e
    rw [e]
    exact hq _ _
  refine rec 8 _ _ _ _ _ ((37,_) :: R) _ _ 0 ds.length _ (Cal.mk' B' X' T' rfl rfl (by k_room) (by k_units) rfl) FC (G4.perm (.cons _ ((List.perm_middle (l₁:=[_,_,_,_,_])).symm))) hne (Nat.le_refl _) (by exact Ab.om350 hlen) fun h5 tk5 t5 F5 D5=>?_
  have N5:=D5.n
  have hnd5:=D5.nd
  simp only [List.cons_append,List.nil_append] at N5 hnd5
  clear FC NC G4 G2 G3 rec D5
  k_extra "oz0"
  rename _=>z1; revert z1; rename _=>z2; revert z2; rename _=>kN; revert kN; rename _=>kF; intro kN z2 z1
  have D9:Led b L _ _:=⟨kN,hnd5⟩
  have D10:=(D9.sub (.cons _ (.cons_cons _ (.cons _ (.cons _ (.cons _ (.cons_cons _ (.cons_cons _ (List.Sublist.refl R)))))))))
  have e9:(ds.drop 0).take (ds.length - 0) = ds:=by rw [List.drop_zero,Nat.sub_zero,List.take_length]
  rw [e9]
  exact h _ _ _ c' oc vs' t kF (D10.perm (List.perm_middle (l₁:=[_,_]))) hd' hv hsame
 ·rename _=>z1; revert z1; rename _=>z2; revert z2; rename _=>kN; revert kN; rename _=>kF; revert kF; rename _=>ha0; revert ha0; revert fq; rename _=>z3; revert z3; rename _=>dI'; revert dI'; rename _=>N9; revert N9; rename _=>F9; revert F9; rename _=>oI'; revert oI'; rename _=>h9; intro oI' F9 N9 dI' z3 fq ha0 kF kN z2 z1
  have D9:Led b L _ ((f,_) :: (37,_) :: (c',oc) :: (L' + 1 + 1 + 1,oI') :: (L' + 1 + 1,o2) :: (L' + 1,o1) :: (dA,listOf vs.toArray kd) :: R):=⟨kN,G2.nd⟩
  have D10:=(D9.sub (.cons _ (.cons_cons _ (.cons_cons _ (.cons _ (.cons _ (.cons _ (.cons_cons _ (List.Sublist.refl R)))))))))
  have hq:=fun tk t'=>h h9 tk t' c' oc vs' t kF D10 hd' hv hsame
  have e0:ds = []:=List.eq_nil_of_length_eq_zero (by exact Ab.om351 hlen ha0)
  rw [e0] at hq
  exact hq _ _
end Mine
end
theorem kw6:True:=by
 (k_with ".call builtin:list.reverse" => refine Mine.Halt.mk ?_)
 exact True.intro
section
namespace Mine
section
variable {prog:Program} {w:World} {A:Around} {env:Env} {b:Heap} {body:List Stmt} {s:Shared} {m:Str → Option Value} {ex Rst:List (Addr × Obj)} {Q:Flow → Shared → Prop}
theorem D0l {x:Str} {px:Pos} {I l:Addr} {its:List Value} {k:Nat} (hh:A.handled = none)
  (hx:env.kindOf x = some .local) (hp:(env.scope.kind == .class || (env.scope.kind == .module && env.locals != env.globals)) = false)
  (F:Fr b env.locals s.heap m) (D:Led b env.locals s.heap ((I,revObj l ((its.length:Int) - 1)) :: (ex ++ Rst))) (hl:(l,listOf its.toArray k) ∈ Rst)
  (J:Nat → (Str → Option Value) → List (Addr × Obj) → Array GenState → Prop) (h0:J 0 m ex s.gens)
  (step:∀ i v m₁ ex₁ g h₁ tk T,i < its.length → its[its.length - 1 - i]? = some v → J i m₁ ex₁ g → (∀ p ∈ Rst,p ∈ T) → Fr b env.locals h₁ (fun y=>if y = x then some v else m₁ y) → Led b env.locals h₁ (ex₁ ++ T) →
   wpAny (model prog w) A (execs body env) (StepEnd b env.locals (J (i + 1)) T s (C5e Q)) Nev { s with heap:=h₁,toks:=tk,gens:=g })
  (done:∀ h' tk g m' ex',J its.length m' ex' g → Fr b env.locals h' m' → Led b env.locals h' (ex' ++ Rst) → Q .next { s with heap:=h',toks:=tk,gens:=g }) :
  wpAny (model prog w) A (pyIter (.ref I)) (fun it s₂=>B4n prog w A env (.Name x px) body Q it s₂) Nev s:=by
 have hI:=D.n _ (.head _)
 have D':=D.tail
 have hm:=D'.n (l,listOf its.toArray k) (List.mem_append_right _ hl)
 have hls:s.heap.IsList l its.toArray:=⟨_,hm.1,rfl,k,rfl⟩
 have hne:l ≠ I:=B0d D.nd (l,_) (List.mem_append_right _ hl)
 refine wpAny_pyIter_revIter ⟨_,hI.1,rfl,rfl⟩ ?_
 refine C4u (St:=fun i h=>i ≤ its.toArray.size ∧ h.IsRevIter I l ((its.toArray.size:Int) - 1 - (i:Int)) ∧ h.IsList l its.toArray) (Walks.listRev hh I l hne its.toArray) hx hp ?_ hI.2.2 ?_ ?_
  ⟨Nat.zero_le _,⟨_,hI.1,rfl,by show Data.fields _ = Data.fields _; simp⟩,hls⟩ F D' (B0d D.nd) J h0 ?_ ?_
 ·intro hm'
  rcases List.mem_cons.mp hm' with e | e
  ·exact hI.2.1 e.symm
  ·exact hm.2.1 (List.mem_singleton.mp e).symm
 ·rintro i h ⟨_,⟨o,ho,_⟩,_⟩; exact ⟨o,ho⟩
 ·intro a ha
  rcases List.mem_cons.mp ha with e | e
  ·exact .inl e
  ·exact .inr (.inl ⟨_,by (refine Ab.eqQ (List.mem_singleton.mp e) ?_); exact hl⟩)
 ·intro i v m₁ ex₁ g h₁ tk T hi hP hJ hT F₁ D₁
  exact step i v m₁ ex₁ g h₁ tk T (by simpa using hi) (by simpa using hP) hJ hT F₁ D₁
 ·intro h' tk g m' ex' hJ F' D'
  exact done h' tk g m' ex' (by simpa using hJ) F' D'
end
noncomputable abbrev C9m (c:Addr):Addr × Obj:=(30,tabObj #[rawInt 32,rawInt 4,.ref c])
noncomputable abbrev D7m (c:Addr):Addr × Obj:=(37,tabObj #[rawInt 47,rawInt 4,.ref c])
noncomputable def C2a (q:Str) (oc:Obj):Prop:=∃ vs t,oc.data = .fields vs ∧ vs[1]? = some (.str q t)
theorem C1q {w:World} {A:Around} {b:Heap} {L:Addr} {s:Shared} {m:Str → Option Value} {l tl1 tl2 R:List (Addr × Obj)} {a d:Int} {o1 o2:Option (Addr × Obj)} {ta tb:Tok} {Q:Value → Shared → Prop}
 (C:Cal w b L 30 A) (HC1:CodeHd b 34 30) (HC2:CodeHd b 41 37) (F:Fr b L s.heap m) (D:Led b L s.heap l) (hp:l.Perm (tl1 ++ (tl2 ++ R)))
 (st1:TabSt 30 "_int2digits.<locals>.inner" 32 4 o1 tl1) (st2:TabSt 37 "_digits2int.<locals>.inner" 47 4 o2 tl2)
 (ha:0 ≤ a) (hd:0 < d) (hn1:Builtin.Int.intBits d < 1000) (hcn:B6q (Builtin.Int.intBits d) a ≤ 256)
 (h:∀ h' tk r c1 oc1 c2 oc2 t1 t2,Fr b L h' m → Led b L h' ((r,{ cls:=.type "tuple",data:=.seq #[.int (a / d) t1,.int (a % d) t2] }) :: C9m c1 :: (c1,oc1) :: D7m c2 :: (c2,oc2) :: R) →
  C2a "_int2digits.<locals>.inner" oc1 → C2a "_digits2int.<locals>.inner" oc2 → (∀ x,o1 = some x → x = (c1,oc1)) → (∀ x,o2 = some x → x = (c2,oc2)) → Q (.ref r) { s with heap:=h',toks:=tk }) :
 wpAny (model Pr w) A (call (.ref 49) [.int a ta,.int d tb]) Q Nev s:=by
 obtain ⟨A₀,base,env,outer,lo,mean,mg,mb,dp,gd,un,B,hf,hke,T,hroom,hunits,X⟩:=C
 have N:=D.n
 have hnd:=D.nd
 k_extra "open_x"
 intro g' L' h' FG' F' N' B' X' T''
 refine wpAny_mono (E:=Nev) ?_ Mine.idE Mine.B6o
 refine stq s fun tkz=>?_
 refine (let fA:=_; (?_:wpAny _ fA _ _ _ _))
 obtain ⟨m0,F'⟩:=B3j F' "a" "b" rfl rfl
 have HC1':=HC1.keeps FG'.keep
 have HC2':=HC2.keeps FG'.keep
 generalize hN:Builtin.Int.intBits d = n at *
 have hn0:0 < n:=by
  rw [← hN]; unfold Builtin.Int.intBits
  rw [if_neg (by simpa using Int.ne_of_gt hd)]; exact Ab.om24
 k_extra "oz0"
 revert fq; revert tk; rename _=>z1; revert z1; rename _=>N1; revert N1; rename _=>F1; intro N1 z1 tk fq
 rw [hN] at F1 ⊢
 refine Halt.out ?_
 refine C1r (Cal.mk' B' X' T'' rfl rfl (by k_room) (by k_units) rfl) HC1' F1 ⟨N1,hnd⟩ hp st1 ha hn0 hn1 hcn fun h2 tk2 r1 c1 oc1 vs1 t1 ws kd F2 D2 e1 e2 e3 i1=>?_
 have N2:=D2.n
 have hnd2:=D2.nd
 clear F1 N1
 dsimp only at F2 N2 ⊢
 k_extra "oz0"
 refine Halt.out ?_; refine opq fun K0 hK0=>?_; refine stq s fun tk0=>?_; refine B4o ?_ (fun _=>rfl)
 k_extra "oz0"
 rename _=>lI; revert lI; rename _=>NI; revert NI; rename _=>FI; revert FI; rename _=>hh; revert hh; rename _=>IA; revert IA; revert tk0; revert hK0; revert K0; revert fq; revert tk; rename _=>z1; revert z1; rename _=>lq; revert lq; rename _=>z2; revert z2; rename _=>qA; intro z2 lq z1 tk fq K0 hK0 tk0 IA hh FI NI lI
 have D1:Led g' L' hh ((IA,revObj r1 ((ws.length:Int) - 1)) :: ([(qA,listOf #[] 0)] ++ ((r1,listOf ws.toArray kd) :: C9m c1 :: (c1,oc1) :: (tl2 ++ R)))):=⟨NI,B0i (by k_all) (B0i (by k_all) hnd2)⟩
 have hlw:ws.length = B6q n a:=(B2s i1).trans (B8m _ _ _)
 have hdl:(C3n n a (B6q n a)).length = ws.length:=(B2s i1).symm
 have hok:=C8h n (B6q n a) a
 generalize hds:C3n n a (B6q n a) = ds at *
 refine Halt.out ?_
 refine D0l (ex:=[(qA,listOf #[] 0)]) (Rst:=(r1,listOf ws.toArray kd) :: C9m c1 :: (c1,oc1) :: (tl2 ++ R)) rfl rfl rfl FI D1 (.head _)
  (fun i m ex g=>∃ qs qi kq tr tn,ex = [(qA,listOf (List.toArray qs) kq)] ∧ IntsAre qs qi ∧ C1z n qi ∧ qi.length = i ∧ B6f n qi.reverse = B7m n ds i / d ∧
   m "q_digits" = some (.ref qA) ∧ m "r" = some (.int (B7m n ds i % d) tr) ∧ m "b" = some (.int d tb) ∧ m "n" = some (.int (n:Nat) tn) ∧ g = s.gens)
  ⟨[],[],0,_,_,rfl,.nil,(fun _ h=>by cases h),rfl,by rw [B9b]; exact (Int.zero_ediv _).symm,rfl,by rw [B9b,Int.zero_emod]; rfl,rfl,rfl,rfl⟩ ?_ ?_
 ·intro i v m₁ ex₁ g h₁ tk₁ T' hi hv h9710 hT F₁ D₁
  (first | obtain ⟨qs,qi,kq,tr,tn,e9105,iq,hqok,hql,hqv,hm1,hm2,hm3,hm4,e91014⟩:=h9710); subst e9105; subst e91014
  change Fr g' L' h₁ _ at F₁
  replace F₁:=pin (pin (pin (pin F₁ (x := "q_digits") hm1) (x := "r") hm2) (x := "b") hm3) (x := "n") hm4
  have N₁:News g' L' h₁ ((qA,listOf (List.toArray qs) kq) :: T'):=D₁.n
  have hnd₁:=D₁.nd
  have a1:=B0d hnd₁
  obtain ⟨dg,tg,f1,f2⟩:=C3a i1 (i:=ws.length - 1 - i) (by exact Ab.om547 hdl hi hql)
  rw [hv] at f2
  cases f2
  obtain ⟨hd0,hdn⟩:=hok dg (List.mem_of_getElem? f1)
  have hr0:=Int.emod_nonneg (B7m n ds i) (Int.ne_of_gt hd)
  have hr1:=Int.emod_lt_of_pos (B7m n ds i) hd
  have hbn:d < 2 ^ n:=by rw [← hN]; exact D6o hd
  have hqs:qs.length = i:=(B2s iq).trans hql
  (try clear FI); (try clear NI); (try clear D1); (try clear lI); (try clear N2); (try clear F2); (try clear D2)
  refine opq fun K hK=>?_
  k_extra "oz0"
  refine Halt.out ?_
  refine lshift_int (Int.natCast_nonneg _) (D1i hbn hr0 hr1 hn1) ?_
  rw [Int.toNat_natCast]
  k_extra "oz0"
  refine Halt.out ?_
  revert fq; revert hK; revert K; revert hqs; revert hbn; revert hr1; revert hr0; revert hdn; revert hd0; revert F₁; revert hv; revert f1; revert tg; revert dg; revert a1; revert hnd₁; revert N₁; revert D₁; revert hm4; revert hm3; revert hm2; revert hm1; revert hqv; revert hql; revert hqok; revert iq; revert tn; revert tr; revert kq; revert qi; revert qs; revert hT; revert hi; revert T'; revert tk₁; revert h₁; revert m₁; revert i; revert hok; revert hdl; revert i1; revert hds; revert ds; revert hlw; revert hh; revert IA; revert tk0; revert hK0; revert K0; rename _=>NN; revert NN; revert tk; rename _=>FF; revert FF; revert lq; rename _=>hF; intro lq FF tk NN K0 hK0 tk0 IA hh hlw ds hds i1 hdl hok i m₁ h₁ tk₁ T' hi hT qs qi kq tr tn iq hqok hql hqv hm1 hm2 hm3 hm4 D₁ N₁ hnd₁ a1 dg tg f1 hv F₁ hd0 hdn hr0 hr1 hbn hqs K hK fq
  refine C8f (Cal.mk' B' X' T'' rfl rfl (by k_room) (by k_units) rfl) F₁ D₁ hd (C4q (by rw [hN]; exact hn1)) (by have:=C9j hd hbn hr0 hr1 hd0 hdn; exact Ab.om550 hN hn1 hn0 this) (Int.natCast_nonneg _) fun h3 tk3 rt t3 t4 F3 D3=>?_
  have N3:News g' L' h3 ((rt,_) :: (qA,listOf (List.toArray qs) kq) :: T'):=D3.n
  have hnd3:=D3.nd
  have a2:=B0d hnd3 _ (.head _)
  dsimp only at a2
  have hq300:qs.length ≤ 300:=by exact Ab.om551 hcn hlw hdl hi hql hqs
  clear F₁ N₁ D₁ D3
  dsimp only at F3 ⊢
  k_extra "oz0"
  rename _=>NE; revert NE; rename _=>FE; intro NE
  simp only [List.push_toArray] at NE
  have hst:=D0z (A:=B7m n ds i) (b:=d) (r:=B7m n ds i % d) (d:=dg) (Q:=B7m n ds i / d) (p:=2 ^ n) hd (Int.mul_ediv_add_emod _ _).symm
  have hts:=C5l (n:=n) (ds:=ds) (i:=i) (d:=dg) (by exact Ab.om553 hdl hi hql hqs) (by rw [hdl]; exact f1)
  have hqd:=D4n (n:=n) hd hr0 hr1 hd0 hdn
  refine hK _ _ (StepEnd.next (ex':=[(qA,listOf (qs ++ [Value.int ((B7m n ds i % d * 2 ^ n + dg) / d) t3]).toArray (kq + 1))]) FE ⟨fun p hp=>NE p (.tail _ hp),B0b hnd3⟩
   ⟨qs ++ [Value.int ((B7m n ds i % d * 2 ^ n + dg) / d) t3],qi ++ [(B7m n ds i % d * 2 ^ n + dg) / d],kq + 1,t4,tn,rfl,B8d iq (.cons _ _ .nil),?_,by simp [hql],?_,rfl,?_,rfl,rfl,rfl⟩ rfl rfl)
  ·intro x hx
   rcases List.mem_append.mp hx with hx | hx
   ·exact hqok x hx
   ·rw [List.mem_singleton.mp hx]; exact hqd
  ·rw [List.reverse_append,List.reverse_singleton,List.singleton_append,Mine.B7d,hqv,hts,hst.1,Int.add_comm,Int.mul_comm (2 ^ n) (B7m n ds i / d)]
  ·rw [hts,hst.2]; rfl
 ·intro h' tk' g m' ex' hJ F' D'
  obtain ⟨qs,qi,kq,tr,tn,rfl,iq,hqok,hql,hqv,hm1,hm2,hm3,hm4,rfl⟩:=hJ
  change Fr g' L' h' _ at F'
  replace F':=pin (pin (pin F' (x := "q_digits") hm1) (x := "r") hm2) (x := "n") hm4
  have N':News g' L' h' ((qA,listOf (List.toArray qs) kq) :: (r1,listOf ws.toArray kd) :: C9m c1 :: (c1,oc1) :: (tl2 ++ R)):=D'.n
  have hnd':=D'.nd
  have a1:=B0d hnd'
  have hqs:qs.length = ws.length:=(B2s iq).trans hql
  (try clear FI); (try clear NI); (try clear D1); (try clear lI); (try clear N2); (try clear F2); (try clear D2)
  refine hK0 _ _ ?_
  dsimp only
  k_extra "oz0"
  refine Halt.out ?_
  dsimp only
  refine kl_reverse F' N' (l:=qs.reverse) (by simp) (.head a1) (by rw [sizeLine_eq]; simp; exact Ab.om554 hcn hlw hdl hql hqs) fun h2 F2 N2=>?_
  have hnd2:Nd ((qA,listOf (List.toArray qs.reverse) kq) :: (r1,listOf ws.toArray kd) :: C9m c1 :: (c1,oc1) :: (tl2 ++ R)):=hnd'
  clear F' N' D'
  k_extra "oz0"
  refine Halt.out ?_
  refine C4g (Cal.mk' B' X' T'' rfl rfl (by k_room) (by k_units) rfl) HC2' F2 ⟨N2,hnd2⟩ (List.perm_append_comm_assoc [_,_,_] tl2 R) st2 (D0n iq) (fun x hx=>hqok x (List.mem_reverse.mp hx)) (by simp; exact Ab.om555 hcn hlw hdl hql hqs) hn0 hn1 fun h3 tk3 t3 c2 oc2 vs2 t4 F3 D3 f1 f2 f3=>?_
  have N3:=D3.n
  have hnd3:=D3.nd
  simp only [List.cons_append,List.nil_append] at N3 hnd3
  clear F2 N2 D3
  have hq:B6f n qi.reverse = a / d:=by rw [hqv,← hdl,C2e,← hds,B6e n _ _ ha (C8l hn0 ha)]
  have hr:B7m n ds ws.length % d = a % d:=by rw [← hdl,C2e,← hds,B6e n _ _ ha (C8l hn0 ha)]
  rw [hq]
  rw [hr] at F3
  dsimp only at F3 ⊢
  k_extra "oz0"
  rename _=>z1; revert z1; rename _=>z2; revert z2; rename _=>kN; revert kN; rename _=>kF; revert kF; rename _=>lI; revert lI; rename _=>NN; revert NN; rename _=>FF; revert FF; rename _=>hh; revert hh; rename _=>tA; intro hh FF NN lI kF kN z2 z1
  have D9:Led b L _ ((tA,_) :: D7m c2 :: (c2,oc2) :: (qA,_) :: (r1,_) :: C9m c1 :: (c1,oc1) :: R):=⟨kN,B0i (by k_all) hnd3⟩
  have D10:=D9.sub (.cons_cons _ (.cons_cons _ (.cons_cons _ (.cons _ (.cons _ (.cons_cons _ (.cons_cons _ (List.Sublist.refl R))))))))
  exact h _ _ tA c1 oc1 c2 oc2 _ _ kF (D10.perm (.cons _ (List.perm_append_comm_assoc [_,_] [_,_] R))) ⟨_,_,e1,e2⟩ ⟨_,_,f1,f2⟩ e3 f3
end Mine
end
section
namespace Mine
noncomputable abbrev B7k (b:Heap) (L:Addr) (m:Str → Option Value) (R:List (Addr × Obj)) (o1 o2:Option (Addr × Obj)) (q r:Int) (Q:Value → Shared → Prop) (s:Shared):Prop :=
 ∀ h' tk rr c1 oc1 c2 oc2 t1 t2,Fr b L h' m → Led b L h' ((rr,{ cls:=.type "tuple",data:=.seq #[.int q t1,.int r t2] }) :: C9m c1 :: (c1,oc1) :: D7m c2 :: (c2,oc2) :: R) →
  C2a "_int2digits.<locals>.inner" oc1 → C2a "_digits2int.<locals>.inner" oc2 → (∀ x,o1 = some x → x = (c1,oc1)) → (∀ x,o2 = some x → x = (c2,oc2)) → Q (.ref rr) { s with heap:=h',toks:=tk }
theorem B4x {w:World} {A:Around} {b:Heap} {L:Addr} {s:Shared} {m:Str → Option Value} {l tl1 tl2 R:List (Addr × Obj)} {a d:Int} {o1 o2:Option (Addr × Obj)} {ta tb:Tok} {Q:Value → Shared → Prop}
 (C:Cal w b L 32 A) (HC1:CodeHd b 34 30) (HC2:CodeHd b 41 37) (F:Fr b L s.heap m) (D:Led b L s.heap l) (hp:l.Perm (tl1 ++ (tl2 ++ R)))
 (st1:TabSt 30 "_int2digits.<locals>.inner" 32 4 o1 tl1) (st2:TabSt 37 "_digits2int.<locals>.inner" 47 4 o2 tl2)
 (ha:0 ≤ a) (hd:0 < d) (hn1:Builtin.Int.intBits d < 1000) (hcn:Builtin.Int.intBits a ≤ 256 * Builtin.Int.intBits d)
 (h:B7k b L m R o1 o2 (a / d) (a % d) Q s) :
 wpAny (model Pr w) A (call (.ref 56) [.int a ta,.int d tb]) Q Nev s:=by
 obtain ⟨A₀,base,env,outer,lo,mean,mg,mb,dp,gd,un,B,hf,hke,T,hroom,hunits,X⟩:=C
 have N:=D.n
 have hnd:=D.nd
 k_extra "open_x"
 intro g' L' h' FG' F' N' B' X' T''
 refine wpAny_mono (E:=Nev) ?_ Mine.idE Mine.B6o
 refine (let fA:=_; (?_:wpAny _ fA _ _ _ _))
 obtain ⟨m0,F'⟩:=B3j F' "a" "b" rfl rfl
 have HC1':=HC1.keeps FG'.keep
 have HC2':=HC2.keeps FG'.keep
 k_extra "oz0"
 ·exact Ab.D8i hd (by assumption)
 ·refine Halt.out ?_
  have hn0:=D1j (d:=d) (by exact Ab.om582 (by assumption))
  refine C1q (Cal.mk' B' X' T'' rfl rfl (by k_room) (by k_units) rfl) HC1' HC2' F' ⟨N',hnd⟩ hp st1 st2 ha hd hn1 (F0k hn0 hcn) fun h2 tk2 rr c1 oc1 c2 oc2 t1 t2 F2 D2 k1 k2 k3 k4=>?_
  have N2:=D2.n
  clear F' N'
  k_extra "oz0"
  rename _=>z1; revert z1; rename _=>z2; revert z2; rename _=>kN; revert kN; rename _=>kF; intro kN z2 z1
  exact h _ _ rr c1 oc1 c2 oc2 t1 t2 kF ⟨kN,D2.nd⟩ k1 k2 k3 k4
theorem B4w {w:World} {A:Around} {b:Heap} {L:Addr} {s:Shared} {m:Str → Option Value} {l tl1 tl2 R:List (Addr × Obj)} {a d:Int} {o1 o2:Option (Addr × Obj)} {ta tb:Tok} {Q:Value → Shared → Prop}
 (C:Cal w b L 34 A) (HC1:CodeHd b 34 30) (HC2:CodeHd b 41 37) (F:Fr b L s.heap m) (D:Led b L s.heap l) (hp:l.Perm (tl1 ++ (tl2 ++ R)))
 (st1:TabSt 30 "_int2digits.<locals>.inner" 32 4 o1 tl1) (st2:TabSt 37 "_digits2int.<locals>.inner" 47 4 o2 tl2)
 (hd:0 < d) (hn1:Builtin.Int.intBits d < 1000) (hcn:Builtin.Int.intBits a ≤ 256 * Builtin.Int.intBits d)
 (h:B7k b L m R o1 o2 (a / d) (a % d) Q s) :
 wpAny (model Pr w) A (call (.ref 56) [.int a ta,.int d tb]) Q Nev s:=by
 by_cases ha:0 ≤ a
 ·exact B4x (C.mono (by decide)) HC1 HC2 F D hp st1 st2 ha hd hn1 hcn h
 obtain ⟨A₀,base,env,outer,lo,mean,mg,mb,dp,gd,un,B,hf,hke,T,hroom,hunits,X⟩:=C
 have N:=D.n
 have hnd:=D.nd
 k_extra "open_x"
 intro g' L' h' FG' F' N' B' X' T''
 refine wpAny_mono (E:=Nev) ?_ Mine.idE Mine.B6o
 refine (let fA:=_; (?_:wpAny _ fA _ _ _ _))
 obtain ⟨m0,F'⟩:=B3j F' "a" "b" rfl rfl
 have HC1':=HC1.keeps FG'.keep
 have HC2':=HC2.keeps FG'.keep
 k_extra "oz0"
 ·exact Ab.D8i hd (by assumption)
 ·refine Halt.out ?_
  have e:Builtin.bitNot a = -1 - a:=by show -a - 1 = _; exact Ab.D8h
  rw [e]
  refine B4x (Cal.mk' B' X' T'' rfl rfl (by k_room) (by k_units) rfl) HC1' HC2' F' ⟨N',hnd⟩ hp st1 st2 (by exact Ab.om589 ha e) hd hn1 (D1k (by exact Ab.om590 ha e) hcn) fun h2 tk2 rr c1 oc1 c2 oc2 t1 t2 F2 D2 k1 k2 k3 k4=>?_
  have N2:=D2.n
  have hnd2:=D2.nd
  clear F' N'
  dsimp only at F2 ⊢
  k_extra "oz0"
  rename _=>z1; revert z1; rename _=>z2; revert z2; rename _=>kN; revert kN; rename _=>kF; revert kF; rename _=>lI; revert lI; rename _=>NN; revert NN; rename _=>FF; revert FF; rename _=>hh; revert hh; rename _=>rA; intro hh FF NN lI kF kN z2 z1
  have D9:Led b L _ ((rA,_) :: (rr,_) :: C9m c1 :: (c1,oc1) :: D7m c2 :: (c2,oc2) :: R):=⟨kN,B0i (by k_all) hnd2⟩
  have D10:=D9.sub (.cons_cons _ (.cons _ (List.Sublist.refl _)))
  have en:=D4u (a:=a) hd
  have e1:Builtin.bitNot ((-1 - a) / d) = a / d:=by rw [← en.1]; show -_ - 1 = _; exact Ab.D8h
  have e2:d + Builtin.bitNot ((-1 - a) % d) = a % d:=by rw [← en.2]; show d + (-_ - 1) = _; exact Ab.om591
  rw [e1,e2] at D10
  exact h _ _ rA c1 oc1 c2 oc2 _ _ kF D10 k1 k2 k3 k4
end Mine
end
section
namespace Mine
theorem C1k (a d:Int):(-a) / (-d) = Int.fdiv a d ∨ 0 ≤ d:=by
 by_cases h:0 ≤ d
 ·exact .inr h
 ·left
  rw [← Int.fdiv_eq_ediv_of_nonneg _ (by omega:0 ≤ -d),Int.neg_fdiv_neg]
theorem C1j {a d:Int} (h:d < 0):-((-a) % (-d)) = Int.fmod a d:=by
 rw [← Int.fmod_eq_emod_of_nonneg _ (by omega:0 ≤ -d),Int.fmod_def,Int.fmod_def,Int.neg_fdiv_neg]
 have:(-d) * a.fdiv d = - (d * a.fdiv d):=Int.neg_mul ..
 omega
theorem B8s (a:Int):Builtin.Int.intBits (-a) = Builtin.Int.intBits a:=by
 unfold Builtin.Int.intBits
 rw [Int.natAbs_neg]
 by_cases h:a = 0
 ·subst h; rfl
 ·have h1:(-a == 0) = false:=by simp; omega
  have h2:(a == 0) = false:=by simp; omega
  rw [h1,h2]
theorem B2o {w:World} {A:Around} {b:Heap} {L:Addr} {s:Shared} {m:Str → Option Value} {l tl1 tl2 R:List (Addr × Obj)} {a d:Int} {o1 o2:Option (Addr × Obj)} {ta tb:Tok} {Q:Value → Shared → Prop}
 (C:Cal w b L 36 A) (HC1:CodeHd b 34 30) (HC2:CodeHd b 41 37) (F:Fr b L s.heap m) (D:Led b L s.heap l) (hp:l.Perm (tl1 ++ (tl2 ++ R)))
 (st1:TabSt 30 "_int2digits.<locals>.inner" 32 4 o1 tl1) (st2:TabSt 37 "_digits2int.<locals>.inner" 47 4 o2 tl2)
 (hd:d ≠ 0) (hn1:Builtin.Int.intBits d < 1000) (hcn:Builtin.Int.intBits a ≤ 256 * Builtin.Int.intBits d)
 (h:B7k b L m R o1 o2 (Int.fdiv a d) (Int.fmod a d) Q s) :
 wpAny (model Pr w) A (call (.ref 56) [.int a ta,.int d tb]) Q Nev s:=by
 by_cases hn:0 < d
 ·refine B4w (C.mono (by decide)) HC1 HC2 F D hp st1 st2 hn hn1 hcn ?_
  rw [← Int.fdiv_eq_ediv_of_nonneg _ (by omega:0 ≤ d),← Int.fmod_eq_emod_of_nonneg _ (by omega:0 ≤ d)]
  exact h
 have hd:d < 0:=by omega
 obtain ⟨A₀,base,env,outer,lo,mean,mg,mb,dp,gd,un,B,hf,hke,T,hroom,hunits,X⟩:=C
 have N:=D.n
 have hnd:=D.nd
 k_extra "open_x"
 intro g' L' h' FG' F' N' B' X' T''
 refine wpAny_mono (E:=Nev) ?_ Mine.idE Mine.B6o
 refine (let fA:=_; (?_:wpAny _ fA _ _ _ _))
 obtain ⟨m0,F'⟩:=B3j F' "a" "b" rfl rfl
 have HC1':=HC1.keeps FG'.keep
 have HC2':=HC2.keeps FG'.keep
 k_extra "oz0"
 ·omega
 ·refine Halt.out ?_
  refine B4w (Cal.mk' B' X' T'' rfl rfl (by k_room) (by k_units) rfl) HC1' HC2' F' ⟨N',hnd⟩ hp st1 st2 (by omega) (by rw [B8s]; exact hn1) (by rw [B8s,B8s]; exact hcn) fun h2 tk2 rr c1 oc1 c2 oc2 t1 t2 F2 D2 k1 k2 k3 k4=>?_
  have N2:=D2.n
  have hnd2:=D2.nd
  clear F' N'
  dsimp only at F2 ⊢
  k_extra "oz0"
  rename_i rA hh FF NN lI kF kN z2 z1
  have D9:Led b L _ ((rA,_) :: (rr,_) :: C9m c1 :: (c1,oc1) :: D7m c2 :: (c2,oc2) :: R):=⟨kN,B0i (by k_all) hnd2⟩
  have D10:=D9.sub (.cons_cons _ (.cons _ (List.Sublist.refl _)))
  rw [(C1k a d).resolve_right (by omega),C1j hd] at D10
  exact h _ _ rA c1 oc1 c2 oc2 _ _ kF D10 k1 k2 k3 k4
end Mine
end
theorem kw7:True:=by
 (k_with "e2" => first | exact Ab.noP e2 | (refine Ab.B0r e2 (fun a b=>?_); subst a b) | (refine Ab.B0m e2 (fun a=>?_); subst a) | cases (e2))
 (k_with "e3" => first | exact Ab.noP e3 | (refine Ab.B0r e3 (fun a b=>?_); subst a b) | (refine Ab.B0m e3 (fun a=>?_); subst a) | cases (e3))
 (k_with "h" => first | exact Ab.noP h | (refine Ab.B0r h (fun a b=>?_); subst a b) | (refine Ab.B0m h (fun a=>?_); subst a) | cases (h))
 (k_with "this" => first | exact Ab.noP this | (refine Ab.B0r this (fun a b=>?_); subst a b) | (refine Ab.B0m this (fun a=>?_); subst a) | cases (this))
 (k_with "q" => first | exact Ab.noP q | (refine Ab.B0r q (fun a b=>?_); subst a b) | (refine Ab.B0m q (fun a=>?_); subst a) | cases (q))
 (k_with "x" => first | exact Ab.noP x | (refine Ab.B0r x (fun a b=>?_); subst a b) | (refine Ab.B0m x (fun a=>?_); subst a) | cases (x))
 (k_with "a" => first | exact Ab.noP a | (refine Ab.B0r a (fun a b=>?_); subst a b) | (refine Ab.B0m a (fun a=>?_); subst a) | cases (a))
 (k_with "v" => first | exact Ab.noP v | (refine Ab.B0r v (fun a b=>?_); subst a b) | (refine Ab.B0m v (fun a=>?_); subst a) | cases (v))
 (k_with "e1" => first | exact Ab.noP e1 | (refine Ab.B0r e1 (fun a b=>?_); subst a b) | (refine Ab.B0m e1 (fun a=>?_); subst a) | cases (e1))
 (k_with "e" => first | exact Ab.noP e | (refine Ab.B0r e (fun a b=>?_); subst a b) | (refine Ab.B0m e (fun a=>?_); subst a) | cases (e))
 (k_with "y" => first | exact Ab.noP y | (refine Ab.B0r y (fun a b=>?_); subst a b) | (refine Ab.B0m y (fun a=>?_); subst a) | cases (y))
 (k_with "o" => first | exact Ab.noP o | (refine Ab.B0r o (fun a b=>?_); subst a b) | (refine Ab.B0m o (fun a=>?_); subst a) | cases (o))
 (k_with "b" => first | exact Ab.noP b | (refine Ab.B0r b (fun a b=>?_); subst a b) | (refine Ab.B0m b (fun a=>?_); subst a) | cases (b))
 (k_with "h1" => first | exact Ab.noP h1 | (refine Ab.B0r h1 (fun a b=>?_); subst a b) | (refine Ab.B0m h1 (fun a=>?_); subst a) | cases (h1))
 (k_with "hc" => first | exact Ab.noP hc | (refine Ab.B0r hc (fun a b=>?_); subst a b) | (refine Ab.B0m hc (fun a=>?_); subst a) | cases (hc))
 (k_with "hu" => first | exact Ab.noP hu | (refine Ab.B0r hu (fun a b=>?_); subst a b) | (refine Ab.B0m hu (fun a=>?_); subst a) | cases (hu))
 (k_with "hx" => first | exact Ab.noP hx | (refine Ab.B0r hx (fun a b=>?_); subst a b) | (refine Ab.B0m hx (fun a=>?_); subst a) | cases (hx))
 (k_with "hy" => first | exact Ab.noP hy | (refine Ab.B0r hy (fun a b=>?_); subst a b) | (refine Ab.B0m hy (fun a=>?_); subst a) | cases (hy))
 (k_with "k" => first | exact Ab.noP k | (refine Ab.B0r k (fun a b=>?_); subst a b) | (refine Ab.B0m k (fun a=>?_); subst a) | cases (k))
 (k_with "z" => first | exact Ab.noP z | (refine Ab.B0r z (fun a b=>?_); subst a b) | (refine Ab.B0m z (fun a=>?_); subst a) | cases (z))
 (k_with "hq" => first | exact Ab.noP hq | (refine Ab.B0r hq (fun a b=>?_); subst a b) | (refine Ab.B0m hq (fun a=>?_); subst a) | cases (hq))
 (k_with "kind" => first | exact Ab.noP kind | (refine Ab.B0r kind (fun a b=>?_); subst a b) | (refine Ab.B0m kind (fun a=>?_); subst a) | cases (kind))
 (k_with "hcz" => first | exact Ab.noP hcz | (refine Ab.B0r hcz (fun a b=>?_); subst a b) | (refine Ab.B0m hcz (fun a=>?_); subst a) | cases (hcz))
 (k_with "hab" => first | exact Ab.noP hab | (refine Ab.B0r hab (fun a b=>?_); subst a b) | (refine Ab.B0m hab (fun a=>?_); subst a) | cases (hab))
 (k_with "hE" => first | exact Ab.noP hE | (refine Ab.B0r hE (fun a b=>?_); subst a b) | (refine Ab.B0m hE (fun a=>?_); subst a) | cases (hE))
 (k_with "g" => first | exact Ab.noP g | (refine Ab.B0r g (fun a b=>?_); subst a b) | (refine Ab.B0m g (fun a=>?_); subst a) | cases (g))
 exact True.intro
section
namespace Ab
noncomputable def BI.val:BI → Value
 | .len=>.builtin "len" | .sum=>.builtin "sum" | .int=>.type "int" | .range=>.type "range" | .enumerate=>.type "enumerate" | .list=>.type "list"
structure Cfg where
 mu:Nat → Addr
 ent:Nat → List (Addr × Obj)
 H:St
 s:Shared
 fr:Addr → Prop
noncomputable def SOk (x:List Nat):Prop:=x.length ≤ lim ∧ ∀ c ∈ x,c < 0x110000
noncomputable def C8c (n:Nat):List Nat:=match C0h n [34,92] with | true=>[92,n] | false=>[n]
noncomputable def B8l (l:List Nat):Nat:=@List.rec Nat (fun _=>Nat) 0 (fun a r ih=>ih * 0x200000 + (a + 1)) l
noncomputable def F1p:Nat → Nat → List Nat
 | 0,J=>[]
 | k + 1,n=>if n = 0 then [] else (n % 0x200000 - 1) :: F1p k (n / 0x200000)
noncomputable def F1o (n:Nat):List Nat:=F1p n n
noncomputable def D2w (θ:Nat → Int):Pc → List Nat
 | .ch c=>[c]
 | .var i=>[(θ i).toNat]
 | .esc i=>C8c (θ i).toNat
 | .blob i=>F1o (θ i).toNat
noncomputable def B1o (θ:Nat → Int) (l:List Pc):List Nat:=@List.rec Pc (fun _=>List Nat) [] (fun g r ih=>D2w θ g ++ ih) l
theorem C3p:∀ (x:List Nat) (k:Nat),(∀ a ∈ x,a < 0x110000) → B8l x ≤ k → F1p k (B8l x) = x
 | [],0,h,J=>rfl
 | [],k + 1,h,J=>if_pos rfl
 | a :: r,0,h,hk=>by
  have:0 < B8l (a :: r):=Nat.lt_of_lt_of_le (Nat.succ_pos a) (Nat.le_add_left ..)
  omega
 | a :: r,k + 1,h,hk=>by
  have ha:a < 0x110000:=h a (.head _)
  have e:B8l (a :: r) = B8l r * 0x200000 + (a + 1):=rfl
  rw [e] at hk ⊢
  show (if B8l r * 0x200000 + (a + 1) = 0 then [] else ((B8l r * 0x200000 + (a + 1)) % 0x200000 - 1) :: F1p k ((B8l r * 0x200000 + (a + 1)) / 0x200000)) = _
  have e1:(B8l r * 0x200000 + (a + 1)) % 0x200000 = a + 1:=by omega
  have e2:(B8l r * 0x200000 + (a + 1)) / 0x200000 = B8l r:=by omega
  rw [if_neg (by omega),e1,e2,C3p r k (fun b hb=>h b (.tail _ hb)) (by omega)]
  rfl
theorem C3o {x:List Nat} (h:∀ a ∈ x,a < 0x110000):F1o (B8l x) = x:=C3p x _ h (Nat.le_refl _)
theorem B8n (θ:Nat → Int):∀ a b:List Pc,B1o θ (a ++ b) = B1o θ a ++ B1o θ b
 | [],b=>rfl
 | g :: a,b=>by
  show D2w θ g ++ B1o θ (a ++ b) = (D2w θ g ++ B1o θ a) ++ B1o θ b
  rw [B8n θ a b,List.append_assoc]
theorem C8j (θ:Nat → Int):∀ x:List Nat,B1o θ (x.map .ch) = x
 | []=>rfl
 | a :: x=>congrArg (a :: ·) (C8j θ x)
noncomputable def VR (θ:Nat → Int) (c:Cfg):AV → Value → Prop
 | .none,v=>v = .none
 | .bool b,v=>v = .bool b
 | .int i,v=>∃ t,v = .int i t
 | .sym e,v=>∃ t,v = .int (e.sem θ) t
 | .str x,v=>SOk x ∧ ∃ t,v = .str ⟨x.toArray⟩ t
 | .pc gs,v=>SOk (B1o θ gs) ∧ ∃ t,v = .str ⟨(B1o θ gs).toArray⟩ t
 | .ref i,v=>i < c.H.n ∧ v = .ref (c.mu i)
 | .glob a,v=>v = .ref a
 | .bi b,v=>v = b.val
 | .opq i,v=>v = .ref (θ i).toNat
inductive VRs (θ:Nat → Int) (c:Cfg):List AV → List Value → Prop
 | nil:VRs θ c [] []
 | cons {a v as vs}:VR θ c a v → VRs θ c as vs → VRs θ c (a :: as) (v :: vs)
noncomputable def B6x:Nat:=300000
noncomputable abbrev C4h (its:Array Value) (n:Nat):Obj:={ cls:=.type "tuple",data:=.seq its n }
noncomputable abbrev LexR:=List Nat → Nat → List Value → Addr → List (Addr × Obj) → Prop
structure Gd where
 θ:Nat → Int
 LX:LexR
 b0:Heap
 P:Params
noncomputable def tabI (a:Nat):Nat × Nat × Str:=if a = 30 then (32,4, "_int2digits.<locals>.inner") else (47,4, "_digits2int.<locals>.inner")
noncomputable def TabR (a0:Nat):Nat → Addr → List (Addr × Obj) → Prop
 | 0,a,e=>a = a0 ∧ e = [(a,tabObj #[])]
 | 1,a,e=>a = a0 ∧ (e = [(a,tabObj #[])] ∨ ∃ cc oc vs t,e = [(a,tabObj #[rawInt (tabI a0).1,rawInt (tabI a0).2.1,.ref cc]),(cc,oc)] ∧ oc.data = .fields vs ∧ vs[1]? = some (.str (tabI a0).2.2 t))
 | J + 2,a,e=>a = a0 ∧ ∃ ps,e = [(a,tabObj ps)]
noncomputable def OR (D:Gd) (c:Cfg):AO → Addr → List (Addr × Obj) → Prop
 | .junk,J,Y=>True
 | .list xs,a,e=>xs.length ≤ B6x ∧ ∃ vs k,e = [(a,listOf vs.toArray k)] ∧ VRs D.θ c xs vs
 | .tup xs,a,e=>xs.length ≤ B6x ∧ ∃ vs k,e = [(a,C4h vs.toArray k)] ∧ VRs D.θ c xs vs
 | .cell v,a,e=>∃ o u,e = [(a,o)] ∧ o.data = .cell u ∧ (∀ x,v = some x → ∃ y,u = some y ∧ VR D.θ c x y)
 | .tab a0 k,a,e=>TabR a0 k a e
 | .stat xs,a,e=>e = [] ∧ xs.length ≤ B6x ∧ ∃ vs,D.b0.IsList a vs.toArray ∧ VRs D.θ c xs vs
 | .lex y k pb,a,e=>(y.length ≤ 900 ∧ ∀ c ∈ y,c < 0x110000) ∧ pb.length ≤ 901 ∧ k ≤ y.length ∧ ∃ vs,VRs D.θ c pb vs ∧ D.LX y k vs a e
noncomputable def Trk (c:Cfg) (a:Addr):Prop:=∃ i,i < c.H.n ∧ ∃ p ∈ c.ent i,p.1 = a
structure Inv (D:Gd) (c:Cfg):Prop where
 rel:∀ i,i < c.H.n → OR D c (c.H.get i) (c.mu i) (c.ent i)
 hold:∀ i,i < c.H.n → ∀ p ∈ c.ent i,c.s.heap.get? p.1 = some p.2
 dis:∀ i j,i < c.H.n → j < c.H.n → i ≠ j → ∀ p ∈ c.ent i,∀ q ∈ c.ent j,p.1 ≠ q.1
 nd:∀ i,i < c.H.n → ((c.ent i).map (·.1)).Nodup
 new:∀ i,i < c.H.n → ∀ p ∈ c.ent i,D.b0.get? p.1 = none
 stat:∀ a o,D.b0.get? a = some o → c.s.heap.get? a = some o
 gens:AllBare c.s.gens
theorem Ns.live {h:Heap} {L:Addr} {m:Str → Option Value} (n:h.Ns L m):∃ o,h.get? L = some o:=let ⟨o,_,_,ho,_⟩:=n; ⟨o,ho⟩
theorem Ns.noFields {h:Heap} {L:Addr} {m:Str → Option Value} (n:h.Ns L m) {o:Obj} {vs:Array Value} (e:h.get? L = some o) (d:o.data = .fields vs):False:=by
 obtain ⟨o',es,ep,e',d',_⟩:=n
 rw [e] at e'; cases e'
 rw [d] at d'; cases d'
noncomputable def Kp (f:Addr → Prop) (h h':Heap) (a:Addr) (o:Obj):Prop:=h'.get? a = some o ∨ (f a ∧ ∃ o',h'.get? a = some o' ∧ (∀ vs,o.data ≠ .fields vs) ∧ (∀ vs,o'.data ≠ .fields vs) ∧ ∀ m,h.Ns a m → h'.Ns a m)
theorem Ns.uniq {h:Heap} {a:Addr} {m m':Str → Option Value} (x:h.Ns a m) (y:h.Ns a m'):m = m':=by
 (k_extra "fG"; refine D7g x fun o1 es ep e1 d1 Z f1=>?_)
 (refine D7g y fun o2 es2 ep2 e2 d2 Z f2=>?_)
 replace e2:=e1 ▸ e2; (clear e1; k_extra "e2")
 replace d2:=d1 ▸ d2; k_extra "fG"; cases d2
 funext x
 rw [← f1,← f2]
theorem Kp.mkN {f:Addr → Prop} {h h':Heap} {a:Addr} {o:Obj} {m:Str → Option Value} (hf:f a) (e:h.get? a = some o) (n:h.Ns a m) (n':h'.Ns a m):Kp f h h' a o:=by
 obtain ⟨o',e'⟩:=Ns.live n'
 exact .inr ⟨hf,o',e',fun vs q=>Ns.noFields n e q,fun vs q=>Ns.noFields n' e' q,fun m' hm'=>Ns.uniq n hm' ▸ n'⟩
theorem Kp.live {f:Addr → Prop} {h h':Heap} {a:Addr} {o:Obj} (k:Kp f h h' a o):∃ o',h'.get? a = some o':=by
 rcases k with e | ⟨_,o',e,_⟩
 ·exact ⟨o,e⟩
 ·exact ⟨o',e⟩
theorem Kp.ns {f:Addr → Prop} {h h':Heap} {a:Addr} {o:Obj} (k:Kp f h h' a o) (e:h.get? a = some o) {m:Str → Option Value} (hm:h.Ns a m):h'.Ns a m:=by
 rcases k with e' | ⟨_,_,_,_,_,g⟩
 ·exact hm.at' fun o2 e2=>by rw [e] at e2; k_extra "e2"; exact e'
 ·exact g m hm
theorem Kp.fields {f:Addr → Prop} {h h':Heap} {a:Addr} {o:Obj} (k:Kp f h h' a o) (e:h.get? a = some o) {vs:Array Value} (d:o.data = .fields vs):h'.get? a = some o:=by
 rcases k with e' | ⟨_,_,_,n,_⟩
 ·exact e'
 ·exact absurd d (n vs)
theorem Kp.plain {f:Addr → Prop} {h h':Heap} {a:Addr} {o:Obj} (k:Kp f h h' a o) (e:h.get? a = some o) (d:∀ vs,o.data ≠ .fields vs):∃ o',h'.get? a = some o' ∧ ∀ vs,o'.data ≠ .fields vs:=by
 rcases k with e' | ⟨_,o',e',_,n,_⟩
 ·exact ⟨o,e',d⟩
 ·exact ⟨o',e',n⟩
theorem Kp.trans {f:Addr → Prop} {h h' h'':Heap} {a:Addr} {o:Obj} (k:Kp f h h' a o) (e:h.get? a = some o) (g:∀ o',h'.get? a = some o' → Kp f h' h'' a o'):Kp f h h'' a o:=by
 rcases k with e' | ⟨hf,o1,e1,n1,n2,k⟩
 ·rcases g o e' with e'' | ⟨hf,o2,e2,n1,n2,k⟩
  ·exact .inl e''
  ·exact .inr ⟨hf,o2,e2,n1,n2,fun m h2=>k m (h2.at' fun o3 e3=>by rw [e] at e3; k_extra "e3"; exact e')⟩
 ·rcases g o1 e1 with e2 | ⟨_,o2,e2,_,n3,g2⟩
  ·exact .inr ⟨hf,o1,e2,n1,n2,fun m h2=>(k m h2).at' fun o3 e3=>by rw [e1] at e3; k_extra "e3"; exact e2⟩
  ·exact .inr ⟨hf,o2,e2,n1,n3,fun m h2=>g2 m (k m h2)⟩
theorem Kp.exact {f:Addr → Prop} {h h':Heap} {a:Addr} {o:Obj} (k:Kp f h h' a o) (n:¬ f a):h'.get? a = some o:=k.elim id fun q=>absurd q.1 n
theorem B7z {e e':List (Addr × Obj)} (h:e'.map (·.1) = e.map (·.1)) {p:Addr × Obj} (hp:p ∈ e'):∃ q ∈ e,q.1 = p.1:=by
 have:p.1 ∈ e'.map (·.1):=List.mem_map_of_mem hp
 rw [h] at this
 obtain ⟨q,hq,e⟩:=List.mem_map.mp this
 exact ⟨q,hq,e⟩
noncomputable def Adr (h:Heap) (e' e:List (Addr × Obj)):Prop:=(∀ p ∈ e',(∃ q ∈ e,q.1 = p.1) ∨ h.get? p.1 = none) ∧ ∀ q ∈ e,∃ p ∈ e',p.1 = q.1
theorem Adr.of {h:Heap} {e' e:List (Addr × Obj)} (m:e'.map (·.1) = e.map (·.1)):Adr h e' e:=⟨fun p hp=>.inl (B7z m hp),fun q hq=>B7z m.symm hq⟩
theorem C1s {h h':Heap} {a:Addr} (lv:∀ a o,h.get? a = some o → ∃ o',h'.get? a = some o') (z:h'.get? a = none):h.get? a = none:=by
 cases x:h.get? a with
 | none=>rfl
 | some o =>
  obtain ⟨o',e⟩:=lv a o x
  rw [z] at e; exact noP e
theorem Adr.trans {h h':Heap} {e e' e'':List (Addr × Obj)} (T:Adr h' e'' e') (S:Adr h e' e) (lv:∀ a o,h.get? a = some o → ∃ o',h'.get? a = some o'):Adr h e'' e :=
 ⟨fun p hp=>(T.1 p hp).elim (fun z=>by
  obtain ⟨q,hq,e⟩:=z
  exact (S.1 q hq).elim (fun z=>by obtain ⟨r,hr,e2⟩:=z; exact .inl ⟨r,hr,e2.trans e⟩) fun z=>.inr (e ▸ z)) fun z=>.inr (C1s lv z),fun q hq=>by
  obtain ⟨r,hr,e⟩:=S.2 q hq
  obtain ⟨p,hp,e2⟩:=T.2 r hr
  exact ⟨p,hp,e2.trans e⟩⟩
structure Stp (X:Option Addr) (c c':Cfg):Prop where
 n:c.H.n ≤ c'.H.n
 mu:∀ i,i < c.H.n → c'.mu i = c.mu i
 adr:∀ i,i < c.H.n → Adr c.s.heap (c'.ent i) (c.ent i)
 fresh:∀ i,c.H.n ≤ i → i < c'.H.n → ∀ p ∈ c'.ent i,c.s.heap.get? p.1 = none
 keep:∀ a o,c.s.heap.get? a = some o → ¬ Trk c a → X ≠ some a → Kp c.fr c.s.heap c'.s.heap a o
 ns:∀ L,X = some L → (∃ m,c.s.heap.Ns L m) → ∃ m,c'.s.heap.Ns L m
 os:c'.s.os = c.s.os
 drawn:c'.s.drawn = c.s.drawn
 fr:c'.fr = c.fr
theorem Stp.refl (X:Option Addr) (c:Cfg):Stp X c c :=
 ⟨Nat.le_refl _,fun Z Z=>rfl,fun Z Z=>.of rfl,fun i h1 h2=>absurd h2 (Nat.not_lt.mpr h1),fun Z Z e Z Z=>.inl e,fun Z Z h=>h,rfl,rfl,rfl⟩
section
variable {c c' c'':Cfg}
theorem C1x (ad:∀ i,i < c.H.n → Adr c.s.heap (c'.ent i) (c.ent i)) (fr:∀ i,c.H.n ≤ i → i < c'.H.n → ∀ p ∈ c'.ent i,c.s.heap.get? p.1 = none) {a:Addr} {o:Obj} (ha:c.s.heap.get? a = some o) (ht:¬ Trk c a):¬ Trk c' a:=by
 rintro ⟨i,hi,p,hp,rfl⟩
 by_cases h:i < c.H.n
 ·rcases (ad i h).1 p hp with ⟨q,hq,e⟩ | z
  ·exact ht ⟨i,h,q,hq,e⟩
  ·rw [ha] at z; exact noP z.symm
 ·have z:=fr i (Nat.not_lt.mp h) hi p hp
  rw [ha] at z; exact noP z.symm
theorem C4c (n:c.H.n ≤ c'.H.n) (ad:∀ i,i < c.H.n → Adr c.s.heap (c'.ent i) (c.ent i)) {a:Addr} (ht:Trk c a):Trk c' a:=by
 obtain ⟨i,hi,p,hp,rfl⟩:=ht
 obtain ⟨q,hq,e⟩:=(ad i hi).2 p hp
 exact ⟨i,Nat.lt_of_lt_of_le hi n,q,hq,e⟩
theorem B6n (lv:∀ a o,c.s.heap.get? a = some o → ∃ o',c'.s.heap.get? a = some o') (f1:∀ i,c.H.n ≤ i → i < c'.H.n → ∀ p ∈ c'.ent i,c.s.heap.get? p.1 = none) (ad:∀ i,i < c'.H.n → Adr c'.s.heap (c''.ent i) (c'.ent i))
  (f2:∀ i,c'.H.n ≤ i → i < c''.H.n → ∀ p ∈ c''.ent i,c'.s.heap.get? p.1 = none):∀ i,c.H.n ≤ i → i < c''.H.n → ∀ p ∈ c''.ent i,c.s.heap.get? p.1 = none:=by
 intro i h1 h2 p hp
 by_cases h:i < c'.H.n
 ·rcases (ad i h).1 p hp with ⟨q,hq,e⟩ | z
  ·exact e ▸ f1 i h1 h q hq
  ·exact C1s lv z
 ·exact C1s lv (f2 i (Nat.not_lt.mp h) h2 p hp)
end
theorem Stp.trk {X:Option Addr} {c c':Cfg} (S:Stp X c c') {a:Addr} {o:Obj} (ha:c.s.heap.get? a = some o) (ht:¬ Trk c a):¬ Trk c' a:=C1x S.adr S.fresh ha ht
theorem Stp.trk' {X:Option Addr} {c c':Cfg} (S:Stp X c c') {a:Addr} (ht:Trk c a):Trk c' a:=C4c S.n S.adr ht
theorem Inv.trkLive {D:Gd} {c:Cfg} (I:Inv D c) {a:Addr} (h:Trk c a):∃ o,c.s.heap.get? a = some o:=by
 obtain ⟨i,hi,p,hp,rfl⟩:=h
 exact ⟨_,I.hold i hi p hp⟩
theorem Stp.weak {X:Option Addr} {c c':Cfg} (S:Stp none c c') (hX:∀ L,X = some L → ¬ Trk c L):Stp X c c' where
 n:=S.n
 mu:=S.mu
 adr:=S.adr
 fresh:=S.fresh
 keep:=fun a o e t Z=>S.keep a o e t (by simp)
 ns:=fun L hL ⟨m,hm⟩=>let ⟨o,e⟩:=Ns.live hm; ⟨m,(S.keep L o e (hX L hL) (by simp)).ns e hm⟩
 os:=S.os
 drawn:=S.drawn
 fr:=S.fr
theorem Stp.lv {X:Option Addr} {D:Gd} {c c':Cfg} (S:Stp X c c') (I':Inv D c') (hX:∀ L,X = some L → ∃ m,c.s.heap.Ns L m) (a:Addr) (o:Obj) (hg:c.s.heap.get? a = some o):∃ o',c'.s.heap.get? a = some o':=by
 by_cases ht:Trk c a
 ·exact I'.trkLive (S.trk' ht)
 ·by_cases hx:X = some a
  ·obtain ⟨m,hm⟩:=S.ns _ hx (hX _ hx)
   exact Ns.live hm
  ·exact (S.keep _ _ hg ht hx).live
theorem Stp.trans {X:Option Addr} {D:Gd} {c c' c'':Cfg} (S:Stp X c c') (T:Stp X c' c'') (I':Inv D c') (hX:∀ L,X = some L → ∃ m,c.s.heap.Ns L m):Stp X c c'':=by
 have hm:∀ i,i < c.H.n → i < c'.H.n:=fun i h=>Nat.lt_of_lt_of_le h S.n
 have lv:=S.lv I' hX
 refine ⟨Nat.le_trans S.n T.n,fun i h=>(T.mu i (hm i h)).trans (S.mu i h),fun i h=>(T.adr i (hm i h)).trans (S.adr i h) lv,?_,?_,fun L hL h=>T.ns L hL (S.ns L hL h),T.os.trans S.os,T.drawn.trans S.drawn,T.fr.trans S.fr⟩
 ·exact B6n lv S.fresh T.adr T.fresh
 ·intro a o e t x
  exact (S.keep a o e t x).trans e fun o' e'=>S.fr ▸ T.keep a o' e' (S.trk e t) x
theorem VR.mono {θ:Nat → Int} {X:Option Addr} {c c':Cfg} (S:Stp X c c'):∀ {v:AV} {u:Value},VR θ c v u → VR θ c' v u
 | .none,J,h=>h
 | .bool J,Y,h=>h
 | .int J,Y,h=>h
 | .sym J,Y,h=>h
 | .str J,Y,h=>h
 | .pc J,Y,h=>h
 | .ref i,J,h=>⟨Nat.lt_of_lt_of_le h.1 S.n,h.2.trans (by rw [S.mu i h.1])⟩
 | .glob J,Y,h=>h
 | .bi J,Y,h=>h
 | .opq J,Y,h=>h
structure Ext (c c':Cfg):Prop where
 n:c.H.n ≤ c'.H.n
 mu:∀ i,i < c.H.n → c'.mu i = c.mu i
theorem Stp.ext {X:Option Addr} {c c':Cfg} (S:Stp X c c'):Ext c c':=⟨S.n,S.mu⟩
theorem VR.ext {θ:Nat → Int} {c c':Cfg} (S:Ext c c'):∀ {v:AV} {u:Value},VR θ c v u → VR θ c' v u
 | .none,J,h=>h
 | .bool J,Y,h=>h
 | .int J,Y,h=>h
 | .sym J,Y,h=>h
 | .str J,Y,h=>h
 | .pc J,Y,h=>h
 | .ref i,J,h=>⟨Nat.lt_of_lt_of_le h.1 S.n,h.2.trans (by rw [S.mu i h.1])⟩
 | .glob J,Y,h=>h
 | .bi J,Y,h=>h
 | .opq J,Y,h=>h
theorem VRs.ext {θ:Nat → Int} {c c':Cfg} (S:Ext c c') {as:List AV} {vs:List Value} (h:VRs θ c as vs):VRs θ c' as vs:=by
 induction h with
 | nil=>exact .nil
 | cons h J ih=>exact .cons (h.ext S) ih
theorem VRs.mono {θ:Nat → Int} {X:Option Addr} {c c':Cfg} (S:Stp X c c') {as:List AV} {vs:List Value} (h:VRs θ c as vs):VRs θ c' as vs:=h.ext S.ext
theorem OR.ext {D:Gd} {c c':Cfg} (S:Ext c c') {o:AO} {a:Addr} {e:List (Addr × Obj)} (h:OR D c o a e):OR D c' o a e:=by
 cases o with
 | junk=>trivial
 | list=>obtain ⟨h,vs,k,e,r⟩:=h; exact ⟨h,vs,k,e,r.ext S⟩
 | tup=>obtain ⟨h,vs,k,e,r⟩:=h; exact ⟨h,vs,k,e,r.ext S⟩
 | cell=>obtain ⟨o,u,e,d,r⟩:=h; exact ⟨o,u,e,d,fun x hx=>let ⟨y,h1,h2⟩:=r x hx; ⟨y,h1,h2.ext S⟩⟩
 | tab=>exact h
 | stat=>obtain ⟨h1,h2,vs,h3,h4⟩:=h; exact ⟨h1,h2,vs,h3,h4.ext S⟩
 | lex=>obtain ⟨h1,h2,h3,vs,r,l⟩:=h; exact ⟨h1,h2,h3,vs,r.ext S,l⟩
/- the store -/
theorem Tr.get_node (v:AO) (l r:Tr) (i:Nat):(Tr.node v l r).get i = if i = 0 then v else if i % 2 = 1 then l.get (i / 2) else r.get (i / 2 - 1):=by
 show @Bool.rec (fun _=>AO) (@Bool.rec (fun _=>AO) (r.get (i / 2 - 1)) (l.get (i / 2)) (Nat.beq (i % 2) 1)) v (Nat.beq i 0) = _
 rw [BT.beq_eq,BT.beq_eq]
 by_cases h:i = 0
 ·simp [h]
 ·by_cases q:i % 2 = 1 <;> simp [h,q]
theorem Tr.get_nil (i:Nat):Tr.nil.get i = .junk:=rfl
theorem Tr.setF_nil (k i:Nat) (o:AO):Tr.setF (k + 1) .nil i o = if i = 0 then .node o .nil .nil else if i % 2 = 1 then .node .junk (Tr.setF k .nil (i / 2) o) .nil else .node .junk .nil (Tr.setF k .nil (i / 2 - 1) o):=by
 show @Bool.rec (fun _=>Tr) (@Bool.rec (fun _=>Tr) (.node .junk .nil (Tr.setF k .nil (i / 2 - 1) o)) (.node .junk (Tr.setF k .nil (i / 2) o) .nil) (Nat.beq (i % 2) 1)) (.node o .nil .nil) (Nat.beq i 0) = _
 rw [BT.beq_eq,BT.beq_eq]
 by_cases h:i = 0
 ·simp [h]
 ·by_cases q:i % 2 = 1 <;> simp [h,q]
theorem Tr.setF_node (k:Nat) (v:AO) (l r:Tr) (i:Nat) (o:AO):Tr.setF (k + 1) (.node v l r) i o = if i = 0 then .node o l r else if i % 2 = 1 then .node v (Tr.setF k l (i / 2) o) r else .node v l (Tr.setF k r (i / 2 - 1) o):=by
 show @Bool.rec (fun _=>Tr) (@Bool.rec (fun _=>Tr) (.node v l (Tr.setF k r (i / 2 - 1) o)) (.node v (Tr.setF k l (i / 2) o) r) (Nat.beq (i % 2) 1)) (.node o l r) (Nat.beq i 0) = _
 rw [BT.beq_eq,BT.beq_eq]
 by_cases h:i = 0
 ·simp [h]
 ·by_cases q:i % 2 = 1 <;> simp [h,q]
theorem Tr.get_setF (o:AO):∀ (k:Nat) (t:Tr) (i j:Nat),i < k → (Tr.setF k t i o).get j = if j = i then o else t.get j
 | 0,J,Y,V,h=>absurd h (Nat.not_lt_zero _)
 | k + 1,t,i,j,h=>by
  have key:∀ (v:AO) (l r:Tr),(if i = 0 then Tr.node o l r else if i % 2 = 1 then .node v (Tr.setF k l (i / 2) o) r else .node v l (Tr.setF k r (i / 2 - 1) o)).get j = if j = i then o else (Tr.node v l r).get j:=by
   intro v l r
   rw [Tr.get_node]
   by_cases hi:i = 0
   ·subst hi
    rw [if_pos rfl,Tr.get_node]
    by_cases hj:j = 0
    ·rw [if_pos hj,if_pos hj]
    ·rw [if_neg hj,if_neg hj,if_neg hj]
   ·rw [if_neg hi]
    by_cases pi:i % 2 = 1
    ·rw [if_pos pi,Tr.get_node]
     by_cases hj:j = 0
     ·have:j ≠ i:=by exact om153 pi hj
      rw [if_pos hj,if_neg this,if_pos hj]
     ·by_cases pj:j % 2 = 1
      ·rw [if_neg hj,if_pos pj,Tr.get_setF o k l (i / 2) (j / 2) (by exact om154 h pi),if_neg hj,if_pos pj]
       by_cases e:j = i
       ·rw [if_pos e,if_pos (by exact om155 pi pj e)]
       ·rw [if_neg e,if_neg (by exact om156 pi pj e)]
      ·have:j ≠ i:=fun q=>pj (q ▸ pi)
       rw [if_neg hj,if_neg pj,if_neg this,if_neg hj,if_neg pj]
    ·rw [if_neg pi,Tr.get_node]
     by_cases hj:j = 0
     ·have:j ≠ i:=by exact om157 hi pi hj
      rw [if_pos hj,if_neg this,if_pos hj]
     ·by_cases pj:j % 2 = 1
      ·have:j ≠ i:=fun q=>pi (q ▸ pj)
       rw [if_neg hj,if_pos pj,if_neg this,if_neg hj,if_pos pj]
      ·rw [if_neg hj,if_neg pj,Tr.get_setF o k r (i / 2 - 1) (j / 2 - 1) (by exact om158 h hi pi hj pj),if_neg hj,if_neg pj]
       by_cases e:j = i
       ·rw [if_pos e,if_pos (by exact om159 e)]
       ·rw [if_neg e,if_neg (by exact om160 hi pi hj pj e)]
  cases t with
  | node v l r=>rw [Tr.setF_node]; exact key v l r
  | nil =>
   rw [Tr.setF_nil]
   refine (key .junk .nil .nil).trans ?_
   by_cases e:j = i
   ·rw [if_pos e,if_pos e]
   ·rw [if_neg e,if_neg e,Tr.get_node]
    by_cases hj:j = 0
    ·rw [if_pos hj]; rfl
    ·rw [if_neg hj]; by_cases pj:j % 2 = 1 <;> simp [pj,Tr.get_nil]
theorem St.get_set (H:St) (i j:Nat) (o:AO):(H.set i o).get j = if j = i then o else H.get j:=Tr.get_setF o _ _ _ _ (Nat.lt_succ_self _)
theorem St.get_new (H:St) (j:Nat) (o:AO):(H.new o).2.get j = if j = H.n then o else H.get j:=Tr.get_setF o _ _ _ _ (Nat.lt_succ_self _)
end Ab
end
section
namespace Ab
noncomputable abbrev Cfg.up (c:Cfg) (s:Shared):Cfg:=⟨c.mu,c.ent,c.H,s,c.fr⟩
noncomputable abbrev Cfg.add (c:Cfg) (a:Addr) (e:List (Addr × Obj)) (o:AO) (s:Shared):Cfg :=
 ⟨fun i=>if i = c.H.n then a else c.mu i,fun i=>if i = c.H.n then e else c.ent i,(c.H.new o).2,s,c.fr⟩
noncomputable abbrev Cfg.put (c:Cfg) (i:Nat) (e:List (Addr × Obj)) (o:AO) (s:Shared):Cfg :=
 ⟨c.mu,fun j=>if j = i then e else c.ent j,c.H.set i o,s,c.fr⟩
theorem Ext.up (c:Cfg) (s:Shared):Ext c (c.up s):=⟨Nat.le_refl _,fun Z Z=>rfl⟩
theorem Ext.add (c:Cfg) (a:Addr) (e:List (Addr × Obj)) (o:AO) (s:Shared):Ext c (c.add a e o s) :=
 ⟨Nat.le_succ _,fun i h=>if_neg (Nat.ne_of_lt h)⟩
theorem Ext.put (c:Cfg) (i:Nat) (e:List (Addr × Obj)) (o:AO) (s:Shared):Ext c (c.put i e o s):=⟨Nat.le_refl _,fun Z Z=>rfl⟩
section
variable {D:Gd} {c:Cfg} {s':Shared}
theorem Inv.up (I:Inv D c) (k:∀ a o,Trk c a → c.s.heap.get? a = some o → s'.heap.get? a = some o) (st:∀ a o,D.b0.get? a = some o → s'.heap.get? a = some o) (g:AllBare s'.gens):Inv D (c.up s') where
 rel:=fun i h=>(I.rel i h).ext (Ext.up c s')
 hold:=fun i h p hp=>k _ _ ⟨i,h,p,hp,rfl⟩ (I.hold i h p hp)
 dis:=I.dis
 nd:=I.nd
 new:=I.new
 stat:=st
 gens:=g
theorem Stp.up (k:∀ a o,¬ Trk c a → c.s.heap.get? a = some o → s'.heap.get? a = some o) (h1:s'.os = c.s.os) (h2:s'.drawn = c.s.drawn):Stp none c (c.up s') :=
 ⟨Nat.le_refl _,fun Z Z=>rfl,fun Z Z=>.of rfl,fun i h1 h2=>absurd h2 (Nat.not_lt.mpr h1),fun a o e t Z=>.inl (k a o t e),fun L h=>(by k_extra "h"),h1,h2,rfl⟩
theorem B3m (I:Inv D c) (k:∀ a o,c.s.heap.get? a = some o → s'.heap.get? a = some o) (g:AllBare s'.gens) (h1:s'.os = c.s.os) (h2:s'.drawn = c.s.drawn):Inv D (c.up s') ∧ Stp none c (c.up s') :=
 ⟨I.up (fun a o Z e=>k a o e) (fun a o e=>k a o (I.stat a o e)) g,.up (fun a o Z e=>k a o e) h1 h2⟩
theorem C4d (I:Inv D c) {a:Addr} {e:List (Addr × Obj)} {o:AO} (hf:∀ p ∈ e,c.s.heap.get? p.1 = none) (hn:(e.map (·.1)).Nodup) (hh:∀ p ∈ e,s'.heap.get? p.1 = some p.2)
  (k:∀ b x,c.s.heap.get? b = some x → s'.heap.get? b = some x) (r:OR D (c.add a e o s') o a e) (g:AllBare s'.gens) (h1:s'.os = c.s.os) (h2:s'.drawn = c.s.drawn) :
  Inv D (c.add a e o s') ∧ Stp none c (c.add a e o s'):=by
 have lt:∀ i,i < (c.add a e o s').H.n → i ≠ c.H.n → i < c.H.n:=fun i h q=>by
  have:i < c.H.n + 1:=h
  exact om44 q this
 constructor
 ·refine ⟨?_,?_,?_,?_,?_,fun b x q=>k b x (I.stat b x q),g⟩
  ·intro i h
   show OR D _ ((c.H.new o).2.get i) (if i = c.H.n then a else c.mu i) (if i = c.H.n then e else c.ent i)
   rw [St.get_new]
   by_cases q:i = c.H.n
   ·(refine eqQ (if_pos q) ?_; refine eqQ (if_pos q) ?_; refine eqQ (if_pos q) ?_); exact r
   ·(refine eqQ (if_neg q) ?_; refine eqQ (if_neg q) ?_; refine eqQ (if_neg q) ?_); exact (I.rel i (lt i h q)).ext (Ext.add ..)
  ·intro i h p hp
   have hp:p ∈ if i = c.H.n then e else c.ent i:=hp
   by_cases q:i = c.H.n
   ·rw [if_pos q] at hp; exact hh p hp
   ·rw [if_neg q] at hp; exact k _ _ (I.hold i (lt i h q) p hp)
  ·intro i j hi hj ne p hp q hq
   k_extra "fG"; have hp:p ∈ if i = c.H.n then e else c.ent i:=hp
   have hq:q ∈ if j = c.H.n then e else c.ent j:=hq
   by_cases qi:i = c.H.n
   ·rw [if_pos qi] at hp
    have qj:j ≠ c.H.n:=fun z=>ne (qi.trans z.symm)
    rw [if_neg qj] at hq
    intro z
    have h1:=hf p hp
    have h2:=I.hold j (lt j hj qj) q hq
    rw [z,h2] at h1; (first | exact noP h1 | exact fT h1 | exact absurd h1 (fun e=>nomatch e))
   ·rw [if_neg qi] at hp
    by_cases qj:j = c.H.n
    ·rw [if_pos qj] at hq
     intro z
     have h1:=hf q hq
     have h2:=I.hold i (lt i hi qi) p hp
     rw [← z,h2] at h1; (first | exact noP h1 | exact fT h1 | exact absurd h1 (fun e=>nomatch e))
    ·k_extra "fG"; rw [if_neg qj] at hq
     exact I.dis i j (lt i hi qi) (lt j hj qj) ne p hp q hq
  ·intro i h
   show ((if i = c.H.n then e else c.ent i).map (·.1)).Nodup
   by_cases q:i = c.H.n
   ·(refine eqQ (if_pos q) ?_); exact hn
   ·(refine eqQ (if_neg q) ?_); exact I.nd i (lt i h q)
  ·intro i h p hp
   have hp:p ∈ if i = c.H.n then e else c.ent i:=hp
   by_cases q:i = c.H.n
   ·rw [if_pos q] at hp
    cases z:D.b0.get? p.1 with
    | none=>rfl
    | some x=>have:=I.stat _ _ z; rw [hf p hp] at this; k_extra "this"
   ·rw [if_neg q] at hp; exact I.new i (lt i h q) p hp
 ·refine ⟨Nat.le_succ _,(Ext.add c a e o s').mu,fun i h=>?_,?_,fun b x q Z Z=>.inl (k b x q),fun L h=>(by k_extra "h"),h1,h2,rfl⟩
  ·refine .of ?_
   show (if i = c.H.n then e else c.ent i).map (·.1) = _
   (exact eqQ (if_neg (Nat.ne_of_lt h)) rfl)
  ·intro i l u p hp
   have hp:p ∈ if i = c.H.n then e else c.ent i:=hp
   have:i = c.H.n:=Nat.le_antisymm (Nat.le_of_lt_succ u) l
   rw [if_pos this] at hp
   exact hf p hp
theorem D2b (I:Inv D c) {i:Nat} (hi:i < c.H.n) {e:List (Addr × Obj)} {o:AO} (ha:e.map (·.1) = (c.ent i).map (·.1)) (hh:∀ p ∈ e,s'.heap.get? p.1 = some p.2)
  (k:∀ b x,b ∉ (c.ent i).map (·.1) → c.s.heap.get? b = some x → s'.heap.get? b = some x) (r:OR D c o (c.mu i) e) (g:AllBare s'.gens) (h1:s'.os = c.s.os) (h2:s'.drawn = c.s.drawn) :
  Inv D (c.put i e o s') ∧ Stp none c (c.put i e o s'):=by
 have adr:∀ j,(if j = i then e else c.ent j).map (·.1) = (c.ent j).map (·.1):=fun j=>by
  by_cases q:j = i
  ·(refine eqQ (if_pos q) ?_; refine eqQ q ?_); exact ha
  ·(exact eqQ (if_neg q) rfl)
 have back:∀ j,∀ p ∈ (if j = i then e else c.ent j),∃ q ∈ c.ent j,q.1 = p.1:=fun j p hp=>B7z (adr j) hp
 constructor
 ·k_extra "fG"; refine ⟨?_,?_,?_,?_,?_,fun b x q=>?_,g⟩
  ·intro j h
   show OR D _ ((c.H.set i o).get j) (c.mu j) (if j = i then e else c.ent j)
   rw [St.get_set]
   by_cases q:j = i
   ·(refine eqQ (if_pos q) ?_; refine eqQ (if_pos q) ?_; refine eqQ q ?_); exact r.ext (Ext.put ..)
   ·(refine eqQ (if_neg q) ?_; refine eqQ (if_neg q) ?_); exact (I.rel j h).ext (Ext.put ..)
  ·intro j h p hp
   have hp':p ∈ if j = i then e else c.ent j:=hp
   by_cases q:j = i
   ·rw [if_pos q] at hp'; exact hh p hp'
   ·replace hp':=(if_neg q) ▸ hp'
    refine k _ _ (fun hm=>?_) (I.hold j h p hp')
    (refine B0o (List.mem_map.mp hm) fun z hz ez=>?_)
    exact I.dis j i h hi q p hp' z hz ez.symm
  ·intro j l hj hl ne p hp q hq
   (refine B0o (back j p hp) fun p' hp' ep=>?_)
   (refine B0o (back l q hq) fun q' hq' eq=>?_)
   (refine eqR ep ?_; refine eqR eq ?_)
   exact I.dis j l hj hl ne p' hp' q' hq'
  ·intro j h
   show ((if j = i then e else c.ent j).map (·.1)).Nodup
   rw [adr]; exact I.nd j h
  ·intro j h p hp
   (refine B0o (back j p hp) fun p' hp' ep=>?_)
   (refine eqR ep ?_); exact I.new j h p' hp'
  ·refine k b x (fun hm=>?_) (I.stat b x q)
   (refine B0o (List.mem_map.mp hm) fun z hz ez=>?_)
   have:=I.new i hi z hz
   rw [ez,q] at this; (first | exact noP this | exact fT this | exact absurd this (fun e=>nomatch e))
 ·k_extra "fG"; refine ⟨Nat.le_refl _,fun Z Z=>rfl,fun j Z=>.of (adr j),fun j l u=>absurd u (Nat.not_lt.mpr l),fun b x q t Z=>?_,fun L h=>(by k_extra "h"),h1,h2,rfl⟩
  refine .inl (k b x (fun hm=>t ?_) q)
  (refine B0o (List.mem_map.mp hm) fun z hz ez=>?_)
  exact ⟨i,hi,z,hz,ez⟩
inductive PV (D:Gd) (c:Cfg) (v:AV) (H:St) (u:Value) (s:Shared):Prop
 | mk (c':Cfg) (hs:c'.s = s) (hH:c'.H = H) (I:Inv D c') (S:Stp none c c') (r:VR D.θ c' v u)
theorem PV.here (I:Inv D c) {v:AV} {u:Value} (k:∀ a o,c.s.heap.get? a = some o → s'.heap.get? a = some o) (r:VR D.θ c v u) (g:s'.gens = c.s.gens) (h1:s'.os = c.s.os) (h2:s'.drawn = c.s.drawn):PV D c v c.H u s' :=
 let ⟨I',S'⟩:=B3m I k (g ▸ I.gens) h1 h2
 ⟨c.up s',rfl,rfl,I',S',r.mono S'⟩
theorem PV.tok (I:Inv D c) {v:AV} {u:Value} {tk:Nat} (r:VR D.θ c v u):PV D c v c.H u { c.s with toks:=tk }:=PV.here I (fun Z Z e=>e) r rfl rfl rfl
theorem PV.same (I:Inv D c) {v:AV} {u:Value} (r:VR D.θ c v u):PV D c v c.H u c.s:=⟨c,rfl,rfl,I,Stp.refl _ _,r⟩
theorem PV.after {c₁:Cfg} {v:AV} {H:St} {u:Value} (S:Stp none c c₁) (I:Inv D c₁) (h:PV D c₁ v H u s'):PV D c v H u s' :=
 let ⟨c',a,b,i,st,r⟩:=h
 ⟨c',a,b,i,S.trans st I (fun Z q=>by k_extra "q"),r⟩
theorem PV.new (I:Inv D c) {o:AO} {obj:Obj} {h':Heap} {tk:Nat} {a:Addr} (hf:c.s.heap.get? a = none) (hh:h'.get? a = some obj) (k:∀ b x,c.s.heap.get? b = some x → h'.get? b = some x)
  (r:OR D (c.add a [(a,obj)] o { c.s with heap:=h',toks:=tk }) o a [(a,obj)]):PV D c (.ref c.H.n) (c.H.new o).2 (.ref a) { c.s with heap:=h',toks:=tk }:=by
 k_extra "fG"; have hm:∀ p ∈ [(a,obj)],c.s.heap.get? p.1 = none:=fun p hp=>by (refine eqQ (List.mem_singleton.mp hp) ?_); exact hf
 obtain ⟨I',S'⟩:=C4d (s':={ c.s with heap:=h',toks:=tk }) I hm (by simp) (fun p hp=>by (refine eqQ (List.mem_singleton.mp hp) ?_); exact hh) k r I.gens rfl rfl
 exact ⟨_,rfl,rfl,I',S',Nat.lt_succ_self _,congrArg Value.ref (if_pos rfl).symm⟩
structure FR (D:Gd) (c:Cfg) (env:Env) (ly:Ly) (f:Fm):Prop where
 kind:env.scope.kind = .function
 names:env.scope.names = ly.sc
 glb:env.globals = mainGlobals
 blt:env.builtins = builtinsNs
 ns:∃ m,c.s.heap.Ns env.locals m ∧ ∀ i x v,idxS x ly.locs = some i → nth? f.loc i = some (some v) → ∃ u,m x = some u ∧ VR D.θ c v u
 unt:¬ Trk c env.locals
 cel:∀ x j i,idxS x ly.cels = some j → nth? f.cel j = some i → i < c.H.n ∧ env.cells.lookup x = some (c.mu i)
 above:D.b0.objs.size ≤ env.locals
theorem FR.mono {env:Env} {ly:Ly} {f:Fm} {c':Cfg} (F:FR D c env ly f) (S:Stp none c c'):FR D c' env ly f where
 kind:=F.kind
 names:=F.names
 glb:=F.glb
 blt:=F.blt
 ns:=let ⟨m,hm,h⟩:=F.ns; let ⟨o,e⟩:=Ns.live hm; ⟨m,(S.keep _ o e F.unt (by simp)).ns e hm,fun i x v a b=>let ⟨u,h1,h2⟩:=h i x v a b; ⟨u,h1,h2.mono S⟩⟩
 unt:=let ⟨m,hm,_⟩:=F.ns; let ⟨o,ho⟩:=Ns.live hm; S.trk ho F.unt
 cel:=fun x j i a b=>let ⟨h1,h2⟩:=F.cel x j i a b; ⟨Nat.lt_of_lt_of_le h1 S.n,by (refine eqQ (S.mu i h1) ?_); exact h2⟩
 above:=F.above
inductive AOk (D:Gd) (A:Around) (d:Nat) (c:Cfg) (env:Env):Prop
 | mk (fenv:Env) (outer:List Env) (L:Addr) (dp:Nat) (gd:Option (List Code)) (un:Nat) (e1:A = ⟨none,dp,some (fenv :: outer),gd,un⟩) (e2:fenv.frame = some L) (e3:fenv.scope.kind = .function) (e4:dp + 100 + d < recursionLimit) (e5:un + 3 * (100 + d) < cLine) (e6:∃ m,c.s.heap.Ns L m) (e7:¬ Trk c L) (e8:D.b0.objs.size ≤ L) (e9:c.s.heap.FunFrames D.b0 outer) (e10:∀ e ∈ outer,∀ L',e.frame = some L' → ¬ Trk c L' ∧ L' ≠ env.locals ∧ L' < L) (e11:env.frame = some L) (e12:c.fr L) (e13:∀ e ∈ outer,∀ L',e.frame = some L' → c.fr L') (e14:∀ a,c.fr a → ¬ Trk c a ∧ ∃ m,c.s.heap.Ns a m)
theorem AOk.handled {A:Around} {d:Nat} {env:Env} (h:AOk D A d c env):A.handled = none:=by
 (obtain ⟨fenv,outer,L,dp,gd,un,e98⟩:=h; refine eqQ e98 ?_)
 rfl
theorem C7x {h h' base:Heap}:∀ {l:List Env},h.FunFrames base l → (∀ e ∈ l,∀ L o,e.frame = some L → h.get? L = some o → (∀ vs,o.data ≠ .fields vs) → ∃ o',h'.get? L = some o' ∧ ∀ vs,o'.data ≠ .fields vs) → h'.FunFrames base l
 | [],J,Y=>trivial
 | e :: l,z,k=>by
  k_extra "fG"; obtain ⟨h1,⟨L,o,f,n,g,d⟩,r⟩:=z
  (refine B0o (k e (.head _) L o f g d) fun o' g' d'=>?_)
  exact ⟨h1,⟨L,o',f,n,g',d'⟩,C7x r fun e he=>k e (.tail _ he)⟩
theorem C3h {h base:Heap}:∀ {l:List Env},h.FunFrames base l → ∀ e ∈ l,∀ L,e.frame = some L → ∃ o,h.get? L = some o
 | [],J,e,he,Y,V=>absurd he List.not_mem_nil
 | e :: l,hl,e',he,L',q=>by
  k_extra "fG"; obtain ⟨_,⟨L,o,f,_,g,_⟩,r⟩:=hl
  rcases List.mem_cons.mp he with rfl | he
  ·replace q:=f ▸ q; k_extra "q"; exact ⟨o,g⟩
  ·exact C3h r e' he L' q
theorem AOk.step {A:Around} {d:Nat} {env:Env} {c':Cfg} {X:Option Addr} (h:AOk D A d c env) (S:Stp X c c') (hX:X = none ∨ X = some env.locals):AOk D A d c' env:=by
 k_extra "fG"; obtain ⟨fenv,outer,L,dp,gd,un,rfl,h1,h2,h3,h4,⟨m,hm⟩,h6,h7,h8,h9,h10,h11,h12,h13⟩:=h
 obtain ⟨o,ho⟩:=Ns.live hm
 refine ⟨fenv,outer,L,dp,gd,un,rfl,h1,h2,h3,h4,?_,S.trk ho h6,h7,C7x h8 fun e he L' o hf hl hd=>(S.keep L' o hl (h9 e he L' hf).1 ?_).plain hl hd,fun e he L' hf=>⟨?_,(h9 e he L' hf).2⟩,h10,S.fr ▸ h11,S.fr ▸ h12,fun a ha=>?_⟩
 ·by_cases q:X = some L
  ·exact S.ns L q ⟨m,hm⟩
  ·exact ⟨m,(S.keep _ o ho h6 q).ns ho hm⟩
 ·rcases hX with q | q
  ·(refine eqQ q ?_); simp
  ·(refine eqQ q ?_); intro z; exact (h9 e he L' hf).2.1 (oYY z).symm
 ·k_extra "fG"; obtain ⟨o',ho'⟩:=C3h h8 e he L' hf
  exact S.trk ho' (h9 e he L' hf).1
 ·k_extra "fG"; obtain ⟨ht,m',hm'⟩:=h13 a (S.fr ▸ ha)
  obtain ⟨o',ho'⟩:=Ns.live hm'
  refine ⟨S.trk ho' ht,?_⟩
  by_cases q:X = some a
  ·exact S.ns a q ⟨m',hm'⟩
  ·exact ⟨m',(S.keep _ o' ho' ht q).ns ho' hm'⟩
end
end Ab
end
section
namespace Ab
noncomputable abbrev Nev:Value → Shared → Prop:=fun Z Z=>False
structure CxOk (D:Gd) (cx:Cx):Prop where
 facts:∀ t i,cx.facts t = some i → t.sem D.θ = i
 bnd:∀ t b,cx.bnd t = some b → intBits (t.sem D.θ) ≤ b
section
variable {prog:Program} {w:World} {A:Around} {D:Gd} {c:Cfg} {cx:Cx}
theorem VR.fact (C:CxOk D cx) (t:IE) (k:Tok):VR D.θ c (fact cx t) (.int (t.sem D.θ) k):=by
 unfold Ab.fact
 cases h:cx.facts t with
 | none=>exact ⟨k,rfl⟩
 | some i=>exact ⟨k,by rw [C.facts t i h]⟩
theorem B2e {θ:Nat → Int} {v:AV} {t:IE} {u:Value} (h:tie v = some t) (r:VR θ c v u):∃ k,u = .int (t.sem θ) k:=by
 k_extra "fG"; cases v with
 | int=>have e:=oYY h; subst e; exact r
 | sym=>have e:=oYY h; subst e; exact r
 | _=>exact noP h
theorem B3c (C:CxOk D cx) {k:IOp} {a b v:AV} {u1 u2:Value} (h:iop cx k a b = some v) (r1:VR D.θ c a u1) (r2:VR D.θ c b u2) :
  ∃ x y t1 t2,u1 = .int x t1 ∧ u2 = .int y t2 ∧ ∀ t,VR D.θ c v (.int (k.sem x y) t):=by
 k_extra "fG"; refine B1i h (fun p e h=>?_) fun Z h=>onP h fun x hx h=>onP h fun y hy h=>?_
 ·obtain ⟨e1,e2⟩:=B6a e
  rw [e1] at r1
  rw [e2] at r2
  obtain ⟨t1,q1⟩:=r1
  obtain ⟨t2,q2⟩:=r2
  exact ⟨_,_,t1,t2,q1,q2,fun t=>oYY h ▸ ⟨t,D4g k p.1 p.2 ▸ rfl⟩⟩
 ·obtain ⟨t1,e1⟩:=B2e hx r1
  obtain ⟨t2,e2⟩:=B2e hy r2
  exact ⟨_,_,t1,t2,e1,e2,fun t=>oYY h ▸ VR.fact C (.op k x y) t⟩
theorem B0v {o:Option AV} {H H':St} {v:AV} (h:rv o H = some (v,H')):o = some v ∧ H = H':=by
 cases o with
 | none=>k_extra "h"
 | some x=>refine B0j h ?_; exact ⟨rfl,rfl⟩
theorem C9u {o:Option Bool} {H H':St} {v:AV} (h:rbv o H = some (v,H')):∃ b,o = some b ∧ v = .bool b ∧ H = H':=by
 cases o with
 | none=>k_extra "h"
 | some x=>refine B0j h ?_; exact ⟨x,rfl,rfl,rfl⟩
theorem B5e {o:Option Bool} {H H':St} {b:Bool} (h:rbb o H = some (b,H')):o = some b ∧ H = H':=by
 cases o with
 | none=>k_extra "h"
 | some x=>refine B0j h ?_; exact ⟨rfl,rfl⟩
theorem D4m {o:Option Bool} {b:Bool} (h:rb o = some b):o = some (!b):=by
 cases o with
 | none=>k_extra "h"
 | some x=>refine B0g h ?_; k_extra "x" <;> rfl
theorem B6k (C:CxOk D cx) {a:AV} {n:Nat} {u:Value} (h:bits? cx a = some n) (r:VR D.θ c a u):∃ x t,u = .int x t ∧ intBits x ≤ n:=by
 k_extra "fG"; k_extra "a" <;> simp only [bits?,Option.some.injEq,reduceCtorEq] at h
 ·obtain ⟨t,rfl⟩:=r; exact ⟨_,t,rfl,Nat.le_of_eq h⟩
 ·obtain ⟨t,rfl⟩:=r; exact ⟨_,t,rfl,C.bnd _ _ h⟩
theorem D8k {a:AV} {θ:Nat → Int} {u:Value} (h:nz a = true) (r:VR θ c a u):∃ x t,u = .int x t ∧ x ≠ 0 ∧ x.natAbs.log2 < 9000:=by
 k_extra "fG"; refine B5t h (fun i e h=>?_) fun Z h=>(by first | exact noP h | exact fT h | exact nomatch h)
 rw [B0u e] at r
 obtain ⟨t,rfl⟩:=r
 obtain ⟨h0,h1⟩:=(Bool.and_eq_true _ _).mp h
 have h0:i ≠ 0:=fun q=>by replace h0:=q ▸ h0; (first | exact noP h0 | exact fT h0 | exact nomatch h0)
 refine ⟨i,t,rfl,h0,?_⟩
 have:=nYY h1
 unfold intBits Builtin.Int.intBits at this
 rw [if_neg (by rw [beq_iff_eq]; exact h0)] at this
 exact Nat.lt_of_lt_of_le (Nat.lt_of_succ_le this) (by decide)
theorem C2s {x y:Int} {p q:Nat} (h1:intBits x ≤ p) (h2:intBits y ≤ q) (h:p + q ≤ 1000000):IntMulOk x y:=by
 unfold IntMulOk
 intro hh
 simp only [Bool.and_eq_true,Builtin.Int.intTooBig,decide_eq_true_eq] at hh
 have:=hh.2
 have hb:(1000000:Int) ≤ (bitsLine:Int):=by decide +kernel
 unfold intBits at h1 h2
 exact om176 h1 h2 h hh hb
theorem VRs.length {θ:Nat → Int} {as:List AV} {vs:List Value} (h:VRs θ c as vs):as.length = vs.length:=by
 induction h with
 | nil=>rfl
 | cons J Y ih=>simp [ih]
theorem VRs.append {θ:Nat → Int} {as bs:List AV} {vs us:List Value} (h:VRs θ c as vs) (g:VRs θ c bs us):VRs θ c (as ++ bs) (vs ++ us):=by
 induction h with
 | nil=>exact g
 | cons h J ih=>exact .cons h ih
theorem Inv.list (I:Inv D c) {i:Nat} (hi:i < c.H.n) {xs:List AV} (h:c.H.get i = .list xs) :
  xs.length ≤ B6x ∧ ∃ vs k,c.ent i = [(c.mu i,listOf vs.toArray k)] ∧ VRs D.θ c xs vs ∧ c.s.heap.get? (c.mu i) = some (listOf vs.toArray k):=by
 k_extra "fG"; have r:=I.rel i hi
 rw [h] at r
 obtain ⟨hl,vs,k,e,rs⟩:=r
 refine ⟨hl,vs,k,e,rs,?_⟩
 have:=I.hold i hi (c.mu i,listOf vs.toArray k) (by (refine eqQ e ?_); exact .head _)
 exact this
theorem Inv.tup (I:Inv D c) {i:Nat} (hi:i < c.H.n) {xs:List AV} (h:c.H.get i = .tup xs) :
  xs.length ≤ B6x ∧ ∃ vs k,c.ent i = [(c.mu i,C4h vs.toArray k)] ∧ VRs D.θ c xs vs ∧ c.s.heap.get? (c.mu i) = some (C4h vs.toArray k):=by
 k_extra "fG"; have r:=I.rel i hi
 rw [h] at r
 obtain ⟨hl,vs,k,e,rs⟩:=r
 refine ⟨hl,vs,k,e,rs,?_⟩
 have:=I.hold i hi (c.mu i,C4h vs.toArray k) (by (refine eqQ e ?_); exact .head _)
 exact this
theorem B1d {h:Heap} {a:Addr} {vs:Array Value} {k:Nat} (e:h.get? a = some (listOf vs k)):h.IsList a vs:=⟨_,e,rfl,k,rfl⟩
theorem B3v {h:Heap} {a:Addr} {vs:Array Value} {k:Nat} (e:h.get? a = some (C4h vs k)):h.IsTuple a vs:=⟨_,e,rfl,k,rfl⟩
theorem B4h (h:Heap):h.get? h.objs.size = none:=by
 cases q:h.get? h.objs.size with
 | none=>rfl
 | some o=>exact absurd (Heap.lt_size q) (Nat.lt_irrefl _)
theorem B8a:B6x + B6x ≤ sizeLine:=by decide +kernel
theorem PV.newList (I:Inv D c) {xs:List AV} {vs:List Value} {k tk:Nat} (hl:xs.length ≤ B6x) (r:VRs D.θ c xs vs) :
  PV D c (.ref c.H.n) (c.H.new (.list xs)).2 (.ref c.s.heap.objs.size) { c.s with heap:=c.s.heap.push (listOf vs.toArray k),toks:=tk } :=
 PV.new I (B4h _) (Heap.get?_push_size _ rfl) (fun b x e=>Heap.get?_push_of_some _ e) ⟨hl,vs,k,rfl,r.ext (Ext.add ..)⟩
theorem PV.newTup (I:Inv D c) {xs:List AV} {vs:List Value} {k tk:Nat} (hl:xs.length ≤ B6x) (r:VRs D.θ c xs vs) :
  PV D c (.ref c.H.n) (c.H.new (.tup xs)).2 (.ref c.s.heap.objs.size) { c.s with heap:=c.s.heap.push (C4h vs.toArray k),toks:=tk } :=
 PV.new I (B4h _) (Heap.get?_push_size _ rfl) (fun b x e=>Heap.get?_push_of_some _ e) ⟨hl,vs,k,rfl,r.ext (Ext.add ..)⟩
end
end Ab
end
section
namespace Ab
section
variable {prog:Program} {w:World} {A:Around} {D:Gd} {c:Cfg} {cx:Cx}
theorem str_len (x:List Nat):(⟨x.toArray⟩:Str).length = x.length:=by show x.toArray.size = _; simp
theorem B2l (x y:List Nat):(⟨x.toArray⟩:Str) ++ ⟨y.toArray⟩ = ⟨(x ++ y).toArray⟩:=by
 apply Str.ext'
 simp only [Str.cps_append]; simp
theorem B6w:lim ≤ sizeLine:=by decide +kernel
theorem D4q (x:Int) (n:Nat):powI x n = x ^ n:=by
 cases x with
 | ofNat k=>exact Int.natCast_pow k n
 | negSucc k =>
  show (match Nat.beq (n % 2) 0 with | true=>Int.ofNat ((k + 1) ^ n) | false=>Int.negOfNat ((k + 1) ^ n)) = _
  have e:Int.negSucc k = -((k + 1:Nat):Int):=rfl
  rw [e,BT.beq_eq]
  rw [Int.neg_pow]
  by_cases h:n % 2 = 0
  ·rw [decide_eq_true h,h,Int.pow_zero,Int.one_mul,← Int.natCast_pow]; rfl
  ·rw [decide_eq_false h,Nat.mod_two_ne_zero.mp h,Int.pow_succ,Int.pow_zero,Int.one_mul,Int.neg_one_mul,← Int.natCast_pow]; exact Int.negOfNat_eq
theorem B3q {v:AV} {gs:List Pc} (h:pcO v = some gs):v = .pc gs:=by k_extra "v" <;> first | exact congrArg AV.pc (oYY h) | exact noP h
theorem B5k {v:AV} {i:Nat} (h:D7k v = some i):v = .pc [.var i]:=by
 cases v with
 | pc gs=>cases gs with
  | nil=>exact noP h
  | cons g r=>cases r with
   | nil=>cases g with
    | var j=>exact oYY h ▸ rfl
    | _=>exact noP h
   | cons=>exact noP h
 | _=>exact noP h
theorem C2n {θ:Nat → Int} {a:AV} {p:List Pc} {u:Value} (h:pcs a = some p) (r:VR θ c a u):∃ x t,u = .str ⟨x.toArray⟩ t ∧ SOk x ∧ B1o θ p = x:=by
 cases a with
 | str s =>
  obtain ⟨l,t,e⟩:=r
  exact ⟨s,t,e,l,(oYY h) ▸ C8j θ s⟩
 | pc gs =>
  obtain ⟨l,t,e⟩:=r
  exact ⟨_,t,e,l,(oYY h) ▸ rfl⟩
 | _=>exact noP h
theorem C2o {θ:Nat → Int} {a b:AV} {gs:List Pc} {u1 u2:Value} (h:C6h a b = some gs) (r1:VR θ c a u1) (r2:VR θ c b u2):∃ x y t1 t2,u1 = .str ⟨x.toArray⟩ t1 ∧ u2 = .str ⟨y.toArray⟩ t2 ∧ SOk x ∧ SOk y ∧ B1o θ gs = x ++ y:=by
 have key:∀ p q,pcs a = some p → pcs b = some q → p ++ q = gs → ∃ x y t1 t2,u1 = .str ⟨x.toArray⟩ t1 ∧ u2 = .str ⟨y.toArray⟩ t2 ∧ SOk x ∧ SOk y ∧ B1o θ gs = x ++ y:=fun p q e1 e2 e=>by
  obtain ⟨x,t1,a1,a2,a3⟩:=C2n e1 r1
  obtain ⟨y,t2,b1,b2,b3⟩:=C2n e2 r2
  exact ⟨x,y,t1,t2,a1,b1,a2,b2,by rw [← e,B8n,a3,b3]⟩
 refine B1i h (fun p ep h=>onP h fun q eq h=>?_) fun Z h=>onP h fun q eq h=>onP h fun p ep h=>?_
 ·exact key p q (by rw [B3q ep]; rfl) eq (B4b p q ▸ oYY h)
 ·exact key p q ep (by rw [B3q eq]; rfl) (B4b p q ▸ oYY h)
theorem D0v (n:Nat):(C8c n).length ≤ 2:=by
 unfold C8c
 cases C0h n [34,92] with
 | true=>exact Nat.le_refl 2
 | false=>exact Nat.le_succ 1
theorem C0z (θ:Nat → Int):∀ {gs:List Pc} {n:Nat},lenP gs = some n → (B1o θ gs).length ≤ n
 | [],n,h=>(oYY h) ▸ Nat.le_refl _
 | g :: r,n,h=>by
  refine onP h fun m hm h=>?_
  have ih:=C0z θ hm
  show (D2w θ g ++ B1o θ r).length ≤ n
  rw [List.length_append]
  cases g with
  | ch k =>
   have e:m + 1 = n:=oYY h
   have:(D2w θ (.ch k)).length = 1:=rfl
   omega
  | var k =>
   have e:m + 1 = n:=oYY h
   have:(D2w θ (.var k)).length = 1:=rfl
   omega
  | esc k =>
   have e:m + 2 = n:=oYY h
   have:(D2w θ (.esc k)).length ≤ 2:=D0v _
   omega
  | blob k=>exact noP h
theorem C6g {gs:List Pc} {v:AV} (h:pcV gs = some v):v = .pc gs ∧ ∀ θ,(B1o θ gs).length ≤ lim :=
 onP h fun n hn h=>prB h fun hb h=>⟨(oYY h).symm,fun θ=>Nat.le_trans (C0z θ hn) (nYY hb)⟩
theorem C6f (I:Inv D c) {a b v:AV} {gs:List Pc} {u1 u2:Value} (eg:C6h a b = some gs) (hv:pcV gs = some v) (r1:VR D.θ c a u1) (r2:VR D.θ c b u2):wpAny (model prog w) A (binaryOp .Add u1 u2) (PV D c v c.H) Nev c.s:=by
 obtain ⟨x,y,t1,t2,rfl,rfl,l1,l2,e⟩:=C2o eg r1 r2
 obtain ⟨rfl,hl⟩:=C6g hv
 have hl:=hl D.θ
 rw [e,List.length_append] at hl
 refine SB.add (fun t' k=>?_) (by rw [str_len,str_len]; exact Nat.le_trans hl B6w)
 rw [B2l]
 refine PV.tok I ?_
 show SOk (B1o D.θ gs) ∧ _
 rw [e]
 exact ⟨⟨by rw [List.length_append]; exact hl,fun c hc=>(List.mem_append.mp hc).elim (l1.2 c) (l2.2 c)⟩,_,rfl⟩
theorem D3j (I:Inv D c) (C:CxOk D cx) {op:Operator} {o:BOp} (ho:bop op = some o) {a b v:AV} {u1 u2:Value} {H:St} (h:bin cx o a b c.H = some (v,H)) (r1:VR D.θ c a u1) (r2:VR D.θ c b u2) :
  wpAny (model prog w) A (binaryOp op u1 u2) (PV D c v H) Nev c.s:=by
 cases op with
 | Add =>
  cases oYY ho
  refine B1i h (fun gs eg h=>?_) fun Z h=>B1i h (fun x ea h=>onP h fun y eb h=>prB h fun hb h=>B0r h fun z1 z2=>?_) fun Z h=>?_
  ·obtain ⟨h9,rfl⟩:=B0v h
   exact C6f I eg h9 r1 r2
  ·subst z1 z2
   rw [B0e ea] at r1
   rw [B0e eb] at r2
   obtain ⟨l1,t1,rfl⟩:=r1
   obtain ⟨l2,t2,rfl⟩:=r2
   have:x.length + y.length ≤ lim:=by rw [← B1n,← B1n]; exact nYY hb
   rw [B4b]
   refine SB.add (fun t' k=>?_) (by rw [str_len,str_len]; exact Nat.le_trans this B6w)
   rw [B2l]
   exact PV.tok I ⟨⟨by rw [List.length_append]; exact this,fun c hc=>(List.mem_append.mp hc).elim (l1.2 c) (l2.2 c)⟩,_,rfl⟩
  ·obtain ⟨h9,rfl⟩:=B0v h
   obtain ⟨x,y,t1,t2,rfl,rfl,r⟩:=B3c C h9 r1 r2
   exact P.add_int (PV.tok I (r _))
 | Sub =>
  cases oYY ho
  obtain ⟨h9,rfl⟩:=B0v h
  obtain ⟨x,y,t1,t2,rfl,rfl,r⟩:=B3c C h9 r1 r2
  exact P.sub_int (PV.tok I (r _))
 | Mult =>
  cases oYY ho
  refine onP h fun p hp h=>onP h fun q hq h=>prB h fun hb h=>?_
  obtain ⟨h9,rfl⟩:=B0v h
  obtain ⟨x,t1,rfl,b1⟩:=B6k C hp r1
  obtain ⟨y,t2,rfl,b2⟩:=B6k C hq r2
  obtain ⟨x',y',t1',t2',e1,e2,r⟩:=B3c C h9 r1 r2
  k_extra "e1"; k_extra "e2"
  exact P.mul_int (PV.tok I (r _)) (C2s b1 b2 (nYY hb))
 | Mod =>
  cases oYY ho
  refine prB h fun hz h=>?_
  obtain ⟨h9,rfl⟩:=B0v h
  obtain ⟨x,y,t1,t2,rfl,rfl,r⟩:=B3c C h9 r1 r2
  obtain ⟨y',t',e,hy,_⟩:=D8k hz r2
  k_extra "e"
  exact mod_int' hy (PV.tok I (r _))
 | Pow =>
  cases oYY ho
  refine onP h fun p hp h=>onP h fun n en h=>prB h fun hb h=>?_
  obtain ⟨h9,rfl⟩:=B0v h
  obtain ⟨x,t1,rfl,b1⟩:=B6k C hp r1
  rw [B9n en] at r2 h9
  obtain ⟨t2,rfl⟩:=r2
  obtain ⟨x',y',t1',t2',e1,e2,r⟩:=B3c C h9 (show VR D.θ c a (.int x t1) from r1) (show VR D.θ c (.int (Int.ofNat n)) (.int (Int.ofNat n) t2) from ⟨t2,rfl⟩)
  k_extra "e1"; k_extra "e2"
  have r:∀ t,VR D.θ c v (.int (x ^ n) t):=fun t=>D4q x n ▸ r t
  refine pow_int (Int.natCast_nonneg n) ?_ (PV.tok I (r _))
  have h2:((intBits x * n:Nat):Int) ≤ 1000000:=Int.ofNat_le.mpr (Nat.le_trans (Nat.mul_le_mul_right _ b1) (nYY hb))
  rw [Int.natCast_mul] at h2
  exact Int.le_trans h2 (by decide +kernel)
 | FloorDiv =>
  cases oYY ho
  refine prB h fun hz h=>?_
  obtain ⟨h9,rfl⟩:=B0v h
  obtain ⟨x,y,t1,t2,rfl,rfl,r⟩:=B3c C h9 r1 r2
  obtain ⟨y',t',e,hy,hl⟩:=D8k hz r2
  k_extra "e"
  exact floordiv_int hy (PV.tok I (r _)) (Or.inl (PyProof.noPylong_of_log2 hl))
 | _=>exact noP ho
end
end Ab
end
section
namespace Ab
@[elab_as_elim] theorem B9a {α β γ:Type} {a x:α} {b y:β} {c z:γ} {P:α → β → γ → Prop} (h:some (a,b,c) = some (x,y,z)) (q:P a b c):P x y z:=by k_extra "h"; exact q
section
variable {θ:Nat → Int} {c:Cfg} {a:AV} {u:Value} {l:List AV} {us:List Value}
@[elab_as_elim] theorem D7c {i:Int} {P:Value → Prop} (r:VR θ c (.int i) u) (k:∀ t,P (.int i t)):P u:=by obtain ⟨t,rfl⟩:=r; exact k t
@[elab_as_elim] theorem D3b {x:List Nat} {P:Value → Prop} (r:VR θ c (.str x) u) (k:SOk x → ∀ t,P (.str ⟨x.toArray⟩ t)):P u:=by obtain ⟨h,t,rfl⟩:=r; exact k h t
@[elab_as_elim] theorem C9h {i:Nat} {P:Value → Prop} (r:VR θ c (.ref i) u) (k:i < c.H.n → P (.ref (c.mu i))):P u:=by obtain ⟨h,rfl⟩:=r; exact k h
@[elab_as_elim] theorem uStr {x:List Nat} {P:Value → Prop} (e:B5a a = some x) (r:VR θ c a u) (k:SOk x → ∀ t,P (.str ⟨x.toArray⟩ t)):P u:=by rw [B0e e] at r; exact D3b (P:=P) r k
@[elab_as_elim] theorem uInt {i:Int} {P:Value → Prop} (e:C1c a = some i) (r:VR θ c a u) (k:∀ t,P (.int i t)):P u:=by rw [B0u e] at r; exact D7c (P:=P) r k
@[elab_as_elim] theorem vN {P:List Value → Prop} (r:VRs θ c [] us) (k:P []):P us:=by cases r; exact k
@[elab_as_elim] theorem vC {P:List Value → Prop} (r:VRs θ c (a :: l) us) (k:∀ u us,VR θ c a u → VRs θ c l us → P (u :: us)):P us:=by cases r with | cons x y=>exact k _ _ x y
@[elab_as_elim] theorem v1 {P:List Value → Prop} (h:one? l = some a) (r:VRs θ c l us) (k:∀ u,VR θ c a u → P [u]):P us:=by rw [B0c h] at r; cases r with | cons x y=>k_extra "y"; exact k _ x
end
end Ab
end
section
open PySem PySem.W PyProof.Rows PySem.Calls PySem.SeqAt
namespace Ab
noncomputable def C1t (f : AV → St → Option PyData) (H : St) (l : List AV) : Option (List PyData) := @List.rec AV (fun _ => Option (List PyData)) (some []) (fun a r ih => do
  let d ← f a H
  let ds ← ih
  some (d :: ds)) l
noncomputable def D2z:Option Bool → PyData
 | Option.none=>.none
 | some b=>.bool b
noncomputable def C9g (θ : Nat → Int) (a : AV) : Option PyData := B0h (pcO a) (fun gs => some (.str ⟨(B1o θ gs).toArray⟩)) (B0h (B5a a) (fun s => some (.str ⟨s.toArray⟩)) (B0h (kO a) (fun p => some (D2z p)) do
 let t ← tie a
 some (.int (t.sem θ))))
noncomputable def F0i (f : AV → St → Option PyData) (H : St) (o : AO) : Option PyData := B0h (B9q o) (fun l => do
  let x ← C1t f H l
  some (.list x)) do
 let l ← C5i o
 let x ← C1t f H l
 some (.tuple x)
noncomputable def dat (θ:Nat → Int):Nat → AV → St → Option PyData
 | 0,a,J=>C9g θ a
 | n + 1,a,H=>B0h (B4q a) (fun i=>F0i (dat θ n) H (H.get i)) (C9g θ a)
theorem D4s {α γ:Type} {x:Option α} {f:α → γ} {g:γ} (e:x = Option.none):B0h x f g = g:=e ▸ rfl
theorem D6z {α γ:Type} {x:Option α} {f:α → γ} {g:γ} {a:α} (e:x = some a):B0h x f g = f a:=e ▸ rfl
theorem B7w {f:AV → St → Bool} {g:AV → St → Option PyData} {H:St} (hf:∀ a,f a H = true → ∃ d,g a H = some d):∀ l,okL f H l = true → ∃ ds,C1t g H l = some ds
 | [],J=>⟨[],rfl⟩
 | a :: r,h=>by
  k_extra "fG"; have h:@Bool.rec (fun _=>Bool) false (okL f H r) (f a H) = true:=h
  cases e:f a H with
  | false=>replace h:=e ▸ h; (first | exact noP h | exact fT h | exact nomatch h)
  | true =>
   replace h:=e ▸ h
   obtain ⟨d,hd⟩:=hf a e
   obtain ⟨ds,hds⟩:=B7w hf r h
   refine ⟨d :: ds,?_⟩
   show (g a H >>= fun d=>C1t g H r >>= fun ds=>some (d :: ds)) = _
   (refine eqQ hd ?_; refine eqQ hds ?_); rfl
theorem C6m {θ:Nat → Int} {a:AV} (h:okI a = true):∃ d,C9g θ a = some d:=by
 cases a with
 | pc gs=>exact ⟨_,rfl⟩
 | none=>exact ⟨_,rfl⟩
 | bool b=>exact ⟨_,rfl⟩
 | int i=>exact ⟨_,rfl⟩
 | sym t=>exact ⟨_,rfl⟩
 | str s=>exact ⟨_,rfl⟩
 | _=>exact absurd h Bool.false_ne_true
theorem B4e (θ:Nat → Int) (H:St):∀ n a,okD n a H = true → ∃ d,dat θ n a H = some d
 | 0,a,h=>C6m h
 | n + 1,a,h=>B5t h (fun i e h=>B5t h (fun l el h=>by
   k_extra "fG"; k_extra "fG"; obtain ⟨ds,hds⟩:=B7w (B4e θ H n) l h
   exact ⟨_,(D6z e).trans ((D6z el).trans (by (refine eqQ hds ?_); rfl))⟩) fun el h=>B5t h (fun l et h=>by
   obtain ⟨ds,hds⟩:=B7w (B4e θ H n) l h
   exact ⟨_,(D6z e).trans ((D4s el).trans (by (refine eqQ et ?_); show (C1t _ H l >>= _) = _; (refine eqQ hds ?_); rfl))⟩) fun Z h=>(by first | exact noP h | exact fT h | exact nomatch h)) fun e h=>by
   obtain ⟨d,hd⟩:=C6m (θ:=θ) h
   exact ⟨d,(D4s e).trans hd⟩
section
variable {prog:Program} {w:World} {A:Around} {D:Gd} {c:Cfg} {cx:Cx}
theorem C3r {θ:Nat → Int} {a:AV} {x:List Nat} {d:PyData} (e:B5a a = some x) (h:C9g θ a = some d):d = .str ⟨x.toArray⟩:=by
 rw [B0e e] at h
 exact (oYY h).symm
theorem C3q {θ:Nat → Int} {a:AV} {t:IE} {d:PyData} (ht:tie a = some t) (h:C9g θ a = some d):d = .int (t.sem θ):=by
 have e:B5a a = Option.none:=by k_extra "fG"; k_extra "a" <;> first | rfl | (first | exact noP ht | exact fT ht | exact nomatch ht)
 have e2:kO a = Option.none:=by k_extra "a" <;> first | rfl | (first | exact noP ht | exact fT ht | exact nomatch ht)
 have e3:pcO a = Option.none:=by k_extra "a" <;> first | rfl | (first | exact noP ht | exact fT ht | exact nomatch ht)
 have h:=(D4s e2).symm.trans ((D4s e).symm.trans ((D4s e3).symm.trans h))
 replace h:=ht ▸ h
 exact (oYY h).symm
theorem D3a {θ:Nat → Int} {a:AV} {p:Option Bool} {d:PyData} (hp:kO a = some p) (h:C9g θ a = some d):d = D2z p:=by
 cases a with
 | none=>exact oYY hp ▸ (oYY h).symm
 | bool b=>exact oYY hp ▸ (oYY h).symm
 | _=>(first | exact noP hp | exact fT hp | exact nomatch hp)
theorem D8t (x y:Option Bool):PyData.eqv (D2z x) (D2z y) = kEq x y:=by
 cases x with
 | none=>k_extra "y" <;> rfl
 | some a=>k_extra "y" <;> rfl
theorem F0h {θ:Nat → Int} {n:Nat} {a:AV} {H:St} {d:PyData} (e:B4q a = Option.none) (h:dat θ n a H = some d):C9g θ a = some d:=by
 k_extra "fG"; cases n with
 | zero=>exact h
 | succ n=>exact (D4s e).symm.trans h
theorem D2y {f:AV → St → Option PyData} {H:St} {o:AO} {l:List AV} {d:PyData} (e:B9q o = some l) (h:F0i f H o = some d):∃ ds,C1t f H l = some ds ∧ d = .list ds :=
 B0a ((D6z e).symm.trans h) fun ds hd h=>⟨ds,hd,(oYY h).symm⟩
theorem D2x {f:AV → St → Option PyData} {H:St} {o:AO} {l:List AV} {d:PyData} (e:C5i o = some l) (h:F0i f H o = some d):∃ ds,C1t f H l = some ds ∧ d = .tuple ds:=by
 k_extra "fG"; have e2:B9q o = Option.none:=by k_extra "o" <;> first | rfl | (first | exact noP e | exact fT e | exact nomatch e)
 exact B0a ((D4s e2).symm.trans h) fun l' el h=>B0a h fun ds hd h=>⟨ds,oYY (el.symm.trans e) ▸ hd,(oYY h).symm⟩
theorem C6b (I:Inv D c) (n:Nat) (f:∀ (a:AV) (d:PyData) (u:Value),dat D.θ n a c.H = some d → VR D.θ c a u → ∃ as,Reads c.s.heap u d as ∧ d.canLay0 = true ∧ d.depth ≤ n) :
  ∀ {l:List AV} {us:List Value} {ds:List PyData},VRs D.θ c l us → C1t (dat D.θ n) c.H l = some ds → ∃ as,ReadsAll c.s.heap us ds as ∧ PyData.canLayAll0 ds = true ∧ PyData.depthAll ds ≤ n:=by
 intro l us ds r
 induction r generalizing ds with
 | nil=>intro h; refine B0g h ?_; exact ⟨[],.nil,rfl,Nat.zero_le _⟩
 | cons r J ih =>
  intro h
  refine C4e h fun d h1 ds h2 h=>B0g h ?_
  (k_extra "fG"; refine B8y (f _ _ _ h1 r) fun x hx hc hd=>?_)
  (refine B8y (ih h2) fun y hy hc2 hd2=>?_)
  exact ⟨_,.cons hx hy,by simp only [PyData.canLayAll0,hc,hc2]; rfl,by simp only [PyData.depthAll]; exact Nat.max_le.mpr ⟨hd,hd2⟩⟩
theorem D1y {a:AV} {d:PyData} {u:Value} (n:Nat) (h:C9g D.θ a = some d) (r:VR D.θ c a u):∃ as,Reads c.s.heap u d as ∧ d.canLay0 = true ∧ d.depth ≤ n:=by
 refine B1i h (fun gs eg h=>B0g h ?_) fun Z h=>B1i h (fun s es h=>B0g h ?_) fun Z h=>B1i h (fun p ep h=>B0g h ?_) fun Z h=>B0a h fun t ht h=>B0g h ?_
 ·rw [B3q eg] at r
  (obtain ⟨hs,t,e98⟩:=r; refine eqQ e98 ?_)
  refine ⟨[],.str _ t,?_,by unfold PyData.depth; exact Nat.zero_le _⟩
  unfold PyData.canLay0 PyData.strOk
  rw [Array.all_eq_true']
  intro x hx
  exact decide_eq_true (hs.2 x (by simpa using hx))
 rotate_left
 ·cases a with
  | none=>refine eqR (oYY ep) ?_; (refine eqQ (show u = .none from r) ?_); exact ⟨[],.none,by unfold PyData.canLay0 D2z; rfl,by unfold PyData.depth D2z; exact Nat.zero_le _⟩
  | bool b=>refine eqR (oYY ep) ?_; (refine eqQ (show u = .bool b from r) ?_); exact ⟨[],.bool _,by unfold PyData.canLay0 D2z; rfl,by unfold PyData.depth D2z; exact Nat.zero_le _⟩
  | _=>(first | exact noP ep | exact fT ep | exact nomatch ep)
 rotate_left
 ·skip
  rw [B0e es] at r
  (obtain ⟨hs,t,e98⟩:=r; refine eqQ e98 ?_)
  refine ⟨[],.str _ t,?_,by unfold PyData.depth; exact Nat.zero_le _⟩
  unfold PyData.canLay0 PyData.strOk
  rw [Array.all_eq_true']
  intro x hx
  exact decide_eq_true (hs.2 x (by simpa using hx))
 ·skip
  (obtain ⟨k,e98⟩:=B2e ht r; refine eqQ e98 ?_)
  exact ⟨[],.int _ k,by unfold PyData.canLay0; rfl,by unfold PyData.depth; exact Nat.zero_le _⟩
theorem B2q (I:Inv D c):∀ (n:Nat) (a:AV) (d:PyData) (u:Value),dat D.θ n a c.H = some d → VR D.θ c a u → ∃ as,Reads c.s.heap u d as ∧ d.canLay0 = true ∧ d.depth ≤ n
 | 0,a,d,u,h,r=>D1y 0 h r
 | n + 1,a,d,u,h,r=>B1i h (fun i ei h=>by
   rw [B0n ei] at r
   (obtain ⟨hi,e98⟩:=r; refine eqQ e98 ?_)
   refine B1i h (fun l el h=>B0a h fun ds hds h=>B0g h ?_) fun Z h=>C4e h fun l el ds hds h=>B0g h ?_
   ·skip
    k_extra "fG"; k_extra "fG"; obtain ⟨_,vs,k,e,rs,ho⟩:=I.list hi (B0w el)
    (refine B8y (C6b I n (B2q I n) rs hds) fun as ra hc hd=>?_)
    exact ⟨_,.list ho rfl rfl ra,by unfold PyData.canLay0; exact hc,by simp only [PyData.depth]; exact om49 hd⟩
   ·skip
    k_extra "fG"; obtain ⟨_,vs,k,e,rs,ho⟩:=I.tup hi (B1z el)
    (refine B8y (C6b I n (B2q I n) rs hds) fun as ra hc hd=>?_)
    exact ⟨_,.tuple ho rfl rfl ra,by unfold PyData.canLay0; exact hc,by simp only [PyData.depth]; exact om49 hd⟩) fun Z h=>D1y _ h r
theorem B5n:∀ x y:List Nat,D6y x y = decide (x = y)
 | [],[]=>rfl
 | [],J :: Y=>rfl
 | J :: Y,[]=>rfl
 | a :: x,b :: y=>by
  show @Bool.rec (fun _=>Bool) false (D6y x y) (Nat.beq a b) = _
  rw [BT.beq_eq,B5n x y]
  by_cases h:a = b <;> simp [h]
theorem C5v (x y:List Nat):((⟨x.toArray⟩:Str) == ⟨y.toArray⟩) = decide (x = y):=by
 rw [Bool.eq_iff_iff]
 simp
theorem B3l {f:AV → St → Option PyData} {H:St}:∀ {l:List AV} {ds:List PyData},C1t f H l = some ds → l.length = ds.length
 | [],ds,h=>by refine B0g h ?_; rfl
 | a :: r,ds,h=>C4e h fun d Z ds h2 h=>oYY h ▸ congrArg Nat.succ (B3l h2)
theorem B7c:∀ {x y:List PyData},x.length ≠ y.length → PyData.eqvAll x y = false
 | [],[],h=>absurd rfl h
 | [],J :: Y,V=>by unfold PyData.eqvAll; rfl
 | J :: Y,[],V=>by unfold PyData.eqvAll; rfl
 | a :: x,b :: y,h=>by
  unfold PyData.eqvAll
  simp only [B7c (x:=x) (y:=y) (by simpa using h),Bool.and_false]
theorem C4b {f:AV → AV → St → Option Bool} {g:AV → St → Option PyData} {H:St} (hf:∀ a b r d e,f a b H = some r → g a H = some d → g b H = some e → PyData.eqv d e = r) :
  ∀ {x y:List AV} {r:Bool} {ds es:List PyData},x.length = y.length → F0w f H x y = some r → C1t g H x = some ds → C1t g H y = some es → PyData.eqvAll ds es = r
 | [],[],r,ds,es,J,h,h1,h2=>by refine B0g h1 ?_; refine B0g h2 ?_; refine B0g h ?_; rfl
 | [],b :: y,r,ds,es,hl,h,h1,h2=>(by first | exact noP hl | exact fT hl | exact nomatch hl)
 | a :: x,[],r,ds,es,hl,h,h1,h2=>(by first | exact noP hl | exact fT hl | exact nomatch hl)
 | a :: x,b :: y,r,ds,es,hl,h,h1,h2=>by
  refine C4e h1 fun d e1 ds' e2 h1=>B0m h1 fun z1=>C4e h2 fun e e3 es' e4 h2=>B0m h2 fun z2=>?_
  (refine eqQ z1 ?_; refine eqQ z2 ?_)
  simp only [PyData.eqvAll]
  refine onP h fun r' q h=>?_
  (refine eqQ (hf _ _ _ _ _ q e1 e3) ?_)
  cases r' with
  | true=>exact C4b hf (Nat.succ.inj hl) h e2 e4
  | false=>exact oYY h
theorem D2s {f:AV → AV → St → Option Bool} {g:AV → St → Option PyData} {H:St} (hf:∀ a b r d e,f a b H = some r → g a H = some d → g b H = some e → PyData.eqv d e = r) {x y:List AV} {r:Bool} {ds es:List PyData} (h:eqs f H x y = some r) (h1:C1t g H x = some ds) (h2:C1t g H y = some es):PyData.eqvAll ds es = r:=by
 unfold eqs at h
 rw [BT.beq_eq] at h
 by_cases hl:x.length = y.length
 ·rw [decide_eq_true hl] at h
  exact C4b hf hl h h1 h2
 ·rw [decide_eq_false hl] at h
  exact (B7c (by (refine eqR (B3l h1) ?_; refine eqR (B3l h2) ?_); exact hl)).trans (oYY h)
theorem C8w (b:Bool):(b2i b == 1) = b:=by k_extra "b" <;> rfl
theorem F0d (C:CxOk D cx) {i j:Nat} {r:Bool} (h:eqV cx i j = some r):PyData.eqv (.str ⟨(B1o D.θ [.var i]).toArray⟩) (.str ⟨(B1o D.θ [.var j]).toArray⟩) = r:=by
 unfold PyData.eqv
 simp only [C5v]
 refine blP h (fun hb h=>?_) fun Z h=>?_
 ·(refine eqQ (Nat.eq_of_beq_eq_true hb) ?_)
  exact (decide_eq_true rfl).trans (oYY h)
 ·refine onP h fun x hx h=>onP h fun p hp h=>onP h fun q hq h=>prB h fun h1 h=>prB h fun h2 h=>prB h fun h3 h=>(oYY h) ▸ decide_eq_false fun e=>?_
  have e:(D.θ i).toNat :: [] = (D.θ j).toNat :: []:=e
  have e:=(List.cons.inj e).1
  have f1:b2i (D.θ i == D.θ j) = 0:=(C.facts _ _ hx).trans (of_decide_eq_true h1)
  have f2:b2i (decide (D.θ i < 0)) = 0:=(C.facts _ _ hp).trans (of_decide_eq_true h2)
  have f3:b2i (decide (D.θ j < 0)) = 0:=(C.facts _ _ hq).trans (of_decide_eq_true h3)
  have g2:¬ D.θ i < 0:=fun z=>by rw [decide_eq_true z] at f2; (first | exact noP f2 | exact fT f2 | exact nomatch f2)
  have g3:¬ D.θ j < 0:=fun z=>by rw [decide_eq_true z] at f3; (first | exact noP f3 | exact fT f3 | exact nomatch f3)
  have g1:D.θ i ≠ D.θ j:=fun z=>by rw [z,beq_self_eq_true] at f1; (first | exact noP f1 | exact fT f1 | exact nomatch f1)
  exact g1 (by omega)
theorem D2t (C:CxOk D cx) {a b:AV} {r:Bool} {d e:PyData} (h:eqI cx a b = some r) (h1:C9g D.θ a = some d) (h2:C9g D.θ b = some e):PyData.eqv d e = r:=by
 refine B1i h (fun i ei h=>onP h fun j ej h=>?_) fun Z h=>B1i h (fun x ex h=>onP h fun y ey h=>B0m h fun z=>?_) fun Z h=>B1i h (fun p ep h=>B0m h fun z=>?_) fun Z h=>B1i h (fun p ep h=>onP h fun q eq h=>B0m h fun z=>?_) fun Z h=>onP h fun x hx h=>onP h fun y hy h=>?_
 ·rw [B5k ei] at h1
  rw [B5k ej] at h2
  (refine eqR (oYY h1) ?_; refine eqR (oYY h2) ?_)
  exact F0d C h
 ·refine eqQ z ?_
  (refine eqQ (C3r ex h1) ?_; refine eqQ (C3r ey h2) ?_)
  unfold PyData.eqv
  simp only [C5v,B5n]
 ·refine eqQ z ?_
  obtain ⟨rfl,rfl⟩:=B6a ep
  refine B0g h1 ?_; refine B0g h2 ?_
  exact (F0c _ _).symm
 ·refine eqQ z ?_
  (refine eqQ (D3a ep h1) ?_; refine eqQ (D3a eq h2) ?_)
  exact D8t p q
 ·(refine eqQ (C3q hx h1) ?_; refine eqQ (C3q hy h2) ?_)
  refine blP h (fun hb h=>?_) fun Z h=>?_
  ·(refine eqQ (B4v _ _ hb) ?_; refine eqR (oYY h) ?_); exact beq_self_eq_true _
  ·refine onP h fun i hi h=>B0m h fun z=>?_
   refine eqQ z ?_
   (refine eqR (C.facts _ _ hi) ?_)
   exact (C8w _).symm
theorem F0f {a b:AV} {r:Bool} (h:eqI cx a b = some r):B4q b = Option.none:=by
 cases b with
 | ref j=>exact B1i h (fun x Z h=>noP h) fun Z h=>B1i h (fun x Z h=>noP h) fun Z h=>B1i h (fun p e Z=>onP e fun Z Z e=>noP e) fun Z h=>B1i h (fun p e h=>noP h) fun Z h=>onP h fun Z Z h=>noP h
 | _=>rfl
theorem C3i (C:CxOk D cx) (H:St):∀ (n:Nat) (a b:AV) (r:Bool) (d e:PyData),eqv cx n a b H = some r → dat D.θ n a H = some d → dat D.θ n b H = some e → PyData.eqv d e = r
 | 0,a,b,r,d,e,h,h1,h2=>D2t C h h1 h2
 | n + 1,a,b,r,d,e,h,h1,h2=>B1i h (fun i ei h=>onP h fun j ej h=>by
   have h1:F0i (dat D.θ n) H (H.get i) = some d:=(D6z ei).symm.trans h1
   have h2:F0i (dat D.θ n) H (H.get j) = some e:=(D6z ej).symm.trans h2
   refine B1i h (fun x ex h=>onP h fun y ey h=>?_) fun Z h=>onP h fun x ex h=>onP h fun y ey h=>?_
   ·((refine B0o (D2y ex h1) fun ds q1 e98=>?_); refine eqQ e98 ?_)
    ((refine B0o (D2y ey h2) fun es q2 e98=>?_); refine eqQ e98 ?_)
    exact D2s (fun a b r d e=>C3i C H n a b r d e) h q1 q2
   ·((refine B0o (D2x ex h1) fun ds q1 e98=>?_); refine eqQ e98 ?_)
    ((refine B0o (D2x ey h2) fun es q2 e98=>?_); refine eqQ e98 ?_)
    exact D2s (fun a b r d e=>C3i C H n a b r d e) h q1 q2) fun e h=>D2t C h (F0h e h1) (F0h (F0f h) h2)
theorem F0a (C:CxOk D cx) {n:Nat} {a b:AV} {H:St} {r:Bool} (h:eqq cx n a b H = some r):∃ d e,dat D.θ n a H = some d ∧ dat D.θ n b H = some e ∧ PyData.eqv d e = r:=by
 k_extra "fG"; refine prB h fun h1 h=>prB h fun h2 h=>?_
 obtain ⟨d,hd⟩:=B4e D.θ H n a h1
 obtain ⟨e,he⟩:=B4e D.θ H n b h2
 exact ⟨d,e,hd,he,C3i C H n a b r d e h hd he⟩
theorem B2g (c:Nat):∀ y:List Nat,C0h c y = decide (c ∈ y)
 | []=>by dsimp only [C0h]; simp
 | b :: y=>by
  show (match Nat.beq c b with | true=>true | false=>C0h c y) = _
  rw [BT.beq_eq,B2g c y]
  by_cases h:c = b <;> simp [h]
theorem D3h (m n:Nat):Nat.blt m n = decide (m < n):=by
 cases h:Nat.blt m n with
 | true=>exact (decide_eq_true (nYY h)).symm
 | false=>exact (decide_eq_false fun e=>Bool.false_ne_true (h.symm.trans (Nat.ble_eq_true_of_le e))).symm
theorem D8r (x y:Int):ltB x y = decide (x < y):=by
 cases x with
 | ofNat m =>
  cases y with
  | ofNat n=>exact (D3h m n).trans (decide_eq_decide.mpr Int.ofNat_lt.symm)
  | negSucc n=>exact (decide_eq_false (by show ¬ ((m:Int) < Int.negSucc n); omega)).symm
 | negSucc m =>
  cases y with
  | ofNat n=>exact (decide_eq_true (by show Int.negSucc m < (n:Int); omega)).symm
  | negSucc n=>exact (D3h n m).trans (decide_eq_decide.mpr ⟨fun h=>by omega,fun h=>by omega⟩)
theorem D2h (C:CxOk D cx) {a b:AV} {r:Bool} {u1 u2:Value} (h:ltI cx a b = some r) (r1:VR D.θ c a u1) (r2:VR D.θ c b u2):∃ x y t1 t2,u1 = .int x t1 ∧ u2 = .int y t2 ∧ r = decide (x < y):=by
 refine B1i h (fun p ep h=>B0m h fun z=>?_) fun Z h=>onP h fun x hx h=>onP h fun y hy h=>onP h fun i hi h=>B0m h fun z=>?_
 ·obtain ⟨rfl,rfl⟩:=B6a ep
  refine D7c r1 fun t1=>?_
  refine D7c r2 fun t2=>?_
  exact ⟨_,_,t1,t2,rfl,rfl,z.trans (D8r _ _)⟩
 ·k_extra "fG"; obtain ⟨t1,e1⟩:=B2e hx r1
  obtain ⟨t2,e2⟩:=B2e hy r2
  refine ⟨_,_,t1,t2,e1,e2,?_⟩
  (refine eqQ z ?_; refine eqR (C.facts _ _ hi) ?_)
  exact C8w _
theorem F0b (I:Inv D c) (C:CxOk D cx) (hu:A.units + 74 < cLine) {a b:AV} {r:Bool} {u1 u2:Value} (r1:VR D.θ c a u1) (r2:VR D.θ c b u2) (h:eqq cx 6 a b c.H = some r) {Q:Value → Shared → Prop} :
  (Q (.bool r) c.s → wpAny (model prog w) A (compareOp .Eq u1 u2) Q Nev c.s) ∧ (Q (.bool (!r)) c.s → wpAny (model prog w) A (compareOp .NotEq u1 u2) Q Nev c.s):=by
 (k_extra "fG"; refine F1d (F0a C h) fun d e hd he hr=>?_)
 (refine B8y (B2q I 6 _ _ _ hd r1) fun as ra hc hdp=>?_)
 (refine B8y (B2q I 6 _ _ _ he r2) fun bs rb hc2 hdp2=>?_)
 exact ⟨fun q=>compareEq_reads ra rb hc hc2 (by exact om50 hu hdp hdp2) (by (refine eqQ hr ?_); exact q),fun q=>compareNe_reads ra rb hc hc2 (by exact om50 hu hdp hdp2) (by (refine eqQ hr ?_); exact q)⟩
theorem D6d {A:Around} {d:Nat} {env:Env} (h:AOk D A d c env):A.units + 64 + 10 < cLine:=by
 (obtain ⟨_,_,_,dp,gd,un,e98,_,_,_,h4⟩:=h; refine eqQ e98 ?_)
 exact om189 h4
theorem D8w (I:Inv D c) (C:CxOk D cx) (hu:A.units + 74 < cLine) {a b:AV} {r:Bool} {u1 u2:Value} (r1:VR D.θ c a u1) (r2:VR D.θ c b u2) (h:inv? a b = some r) {Q:Value → Shared → Prop} :
  (Q (.bool r) c.s → wpAny (model prog w) A (compareOp .In u1 u2) Q Nev c.s) ∧ (Q (.bool (!r)) c.s → wpAny (model prog w) A (compareOp .NotIn u1 u2) Q Nev c.s):=by
 refine onP h fun y ey h=>onP h fun x ex h=>onP h fun k ek h=>B0m h fun z=>?_
 refine eqQ z ?_
 rw [B0e ex,B0c ek] at r1
 rw [B0e ey] at r2
 refine D3b r1 fun l1 t1=>?_
 refine D3b r2 fun l2 t2=>?_
 rw [B2g]
 constructor
 ·intro hQ
  refine P.in_str ?_
  rw [show (⟨[_].toArray⟩:Str) = ⟨#[_]⟩ from rfl,StrLaws.found_one]
  simpa using hQ
 ·intro hQ
  refine P.notIn_str ?_
  rw [show (⟨[_].toArray⟩:Str) = ⟨#[_]⟩ from rfl,StrLaws.found_one]
  simpa using hQ
theorem B6g (I:Inv D c) (C:CxOk D cx) (hu:A.units + 74 < cLine) {op:CmpOp} {o:COp} (ho:cop op = some o) {a b:AV} {r:Bool} {u1 u2:Value} (r1:VR D.θ c a u1) (r2:VR D.θ c b u2) (h:F1q cx o a b c.H = some r)
  {Q:Value → Shared → Prop} (hQ:Q (.bool r) c.s):wpAny (model prog w) A (compareOp op u1 u2) Q Nev c.s:=by
 cases op with
 | Eq=>cases oYY ho; exact (F0b I C hu r1 r2 h).1 hQ
 | NotEq=>cases oYY ho; exact (F0b I C hu r1 r2 (D4m h)).2 (by rw [Bool.not_not]; exact hQ)
 | Lt =>
  cases oYY ho
  (refine D6u (D2h C h r1 r2) fun x y t1 t2 e94 e95 e96=>?_; (clear h; (clear r2; subst e94)); refine eqQ e95 ?_; subst e96)
  exact P.lt_int hQ
 | In=>cases oYY ho; exact (D8w I C hu r1 r2 h).1 hQ
 | IsNot =>
  cases oYY ho
  refine onP h fun x ex h=>onP h fun y ey h=>B0m h fun z=>?_
  (clear h; (clear h; subst z))
  replace r1:=(B4m ex) ▸ r1
  replace r2:=(B4m ey) ▸ r2
  refine eqQ r1 ?_; refine eqQ r2 ?_
  exact isnot_bool hQ
 | Gt =>
  cases oYY ho
  (refine D6u (D2h C h r2 r1) fun x y t1 t2 e94 e95 e96=>?_; (clear h; refine eqQ e94 ?_); subst e95; subst e96)
  exact P.gt_int hQ
 | _=>exact noP ho
end
end Ab
end
section
open PySem PySem.W PyProof.Rows PySem.Calls PySem.SeqAt
namespace Ab
section
variable {prog:Program} {w:World} {A:Around} {D:Gd} {c:Cfg} {cx:Cx}
inductive PC (D:Gd) (c:Cfg) (H:St) (s:Shared):Prop
 | mk (c':Cfg) (hs:c'.s = s) (hH:c'.H = H) (I:Inv D c') (S:Stp none c c')
theorem PC.here (I:Inv D c) {s':Shared} (k:∀ a o,c.s.heap.get? a = some o → s'.heap.get? a = some o) (g:s'.gens = c.s.gens) (h1:s'.os = c.s.os) (h2:s'.drawn = c.s.drawn):PC D c c.H s' :=
 let ⟨I',S'⟩:=B3m I k (g ▸ I.gens) h1 h2
 ⟨c.up s',rfl,rfl,I',S'⟩
theorem PC.tok (I:Inv D c) {tk:Nat}:PC D c c.H { c.s with toks:=tk }:=PC.here I (fun Z Z e=>e) rfl rfl rfl
theorem PC.same (I:Inv D c):PC D c c.H c.s:=⟨c,rfl,rfl,I,Stp.refl _ _⟩
theorem PC.after {c₁:Cfg} {H:St} {s':Shared} (S:Stp none c c₁) (I:Inv D c₁) (h:PC D c₁ H s'):PC D c H s' :=
 let ⟨c',a,b,i,st⟩:=h
 ⟨c',a,b,i,S.trans st I (fun Z q=>by k_extra "q")⟩
noncomputable def PB (D:Gd) (c:Cfg) (b:Bool) (H:St) (r:Bool) (s:Shared):Prop:=r = b ∧ PC D c H s
theorem C5j (I:Inv D c) {v:AV} {b:Bool} {u:Value} (h:Ab.truthy v c.H = some b) (r:VR D.θ c v u):wpAny (model prog w) A (PySem.truthy u) (PB D c b c.H) Nev c.s:=by
 refine B1i h (fun x ex h=>B0g h ?_) fun Z h=>onP h fun i ei h=>B0g h ?_
 ·skip
  rw [B4m ex] at r
  refine eqQ r ?_
  exact wpAny_truthy_bool ⟨rfl,PC.same I⟩
 ·skip
  rw [B0u ei] at r
  (obtain ⟨t,e98⟩:=r; refine eqQ e98 ?_)
  exact P.truthy_int ⟨rfl,PC.same I⟩
theorem D8n (I:Inv D c) (C:CxOk D cx) {v x:AV} {u:Value} (h:Ab.neg cx v = some x) (r:VR D.θ c v u):wpAny (model prog w) A (unaryOp .USub u) (PV D c x c.H) Nev c.s:=by
 cases v with
 | int=>refine B0g h ?_; refine D7c r fun t=>?_; exact P.neg_int (PV.tok I ⟨_,rfl⟩)
 | sym e =>
  refine B0g h ?_; obtain ⟨t,rfl⟩:=r
  refine P.neg_int (PV.tok I ?_)
  have:=VR.fact (c:=c) C (.op .sub (.lit 0) e) c.s.toks
  have e2:IE.sem D.θ (.op .sub (.lit 0) e) = -(e.sem D.θ):=by
   show (0:Int) - _ = _
   exact om192
  rw [e2] at this
  exact this
 | _=>exact noP h
theorem C2r {α:Type}:∀ (l:List α) (i:Nat),nth? l i = l[i]?
 | [],i=>rfl
 | a :: l,0=>rfl
 | a :: l,i + 1=>(C2r l i).trans List.getElem?_cons_succ.symm
theorem VRs.get {θ:Nat → Int} {as:List AV} {vs:List Value} (h:VRs θ c as vs):∀ {i:Nat} {a:AV},nth? as i = some a → ∃ u,vs[i]? = some u ∧ VR θ c a u:=by
 induction h with
 | nil=>intro i a h; k_extra "h"
 | cons r J ih =>
  intro i a h
  cases i with
  | zero=>refine B0g h ?_; exact ⟨_,rfl,r⟩
  | succ i=>(refine B0o (ih h) fun u hu hr=>?_); exact ⟨u,by simpa using hu,hr⟩
theorem VRs.none {θ:Nat → Int} {as:List AV} {vs:List Value} (h:VRs θ c as vs):∀ {i:Nat},nth? as i = Option.none → vs[i]? = Option.none:=by
 intro i q
 rw [C2r,List.getElem?_eq_none_iff] at q
 rw [List.getElem?_eq_none_iff,← h.length]; exact q
theorem C7m {n:Nat} {i:Int} {k:Nat} (h:idx n i = some k):(0 ≤ i ∧ i.toNat = k ∧ k < n) ∨ (i < 0 ∧ -(n:Int) ≤ i ∧ (i + n).toNat = k ∧ k < n):=by
 k_extra "fG"; cases i with
 | ofNat j =>
  refine prB h fun q h=>?_
  have hk:=oYY h
  have:j < n:=nYY q
  exact .inl ⟨by simp,by simp; exact om41 hk,by exact om193 hk this⟩
 | negSucc j =>
  refine prB h fun q h=>?_
  have hk:=oYY h
  have:j < n:=nYY q
  exact .inr ⟨Int.negSucc_lt_zero j,by omega,by omega,by exact om196 hk this⟩
theorem D5j (I:Inv D c) (hP:D.P = w.params) {v i x:AV} {u1 u2:Value} {value slice:Expr} (hs:isSl slice = false) (h:D8u v i c.H = some x) (r1:VR D.θ c v u1) (r2:VR D.θ c i u2) :
  wpAny (model prog w) A (subscriptTail value slice u1 u2) (PV D c x c.H) Nev c.s:=by
 have hz:(lim:Nat) = 100000:=rfl
 have hz2:(B6x:Nat) = 300000:=rfl
 have sub:∀ o j,subscripted slice false o j = operate [o,j] (getItem o j):=by
  intro o j
  cases slice with
  | Slice=>exact absurd hs.symm Bool.false_ne_true
  | _=>rfl
 refine B1i h (fun s es h=>onP h fun k ek h=>onP h fun j hj h=>onP h fun ch hc h=>B0m h fun z=>?_) fun _ h=>B1i h (fun p ep h=>onP h fun k ek h=>onP h fun j hj h=>?_) fun _ h=>noP h
 ·refine eqQ z ?_
  rw [B1n] at hj
  replace r1:=(B0e es) ▸ r1
  have r2:=(B0u ek) ▸ r2
  obtain ⟨⟨l,hcs⟩,t,rfl⟩:=r1
  (obtain ⟨t2,e98⟩:=r2; refine eqQ e98 ?_)
  rw [C2r] at hc
  refine tail_any (typeIs_str _ _ _) F.slot_str_getitem.lookup (P.getItem_str (c:=ch) ?_ ?_ (PV.tok I ⟨⟨(by decide:1 ≤ lim),?_⟩,_,rfl⟩)) (sub _ _)
  ·rcases C7m hj with ⟨a,b,e⟩ | ⟨a,b,e,f⟩ <;> simp <;> (first | exact om197 hz l a b e | exact om198 hz l a b | omega)
  ·rw [str_len]
   have e:seqIndex? k s.length = some j:=by
    rcases C7m hj with ⟨a,b,e⟩ | ⟨a,b,e,f⟩
    ·(refine eqR b ?_); exact seqIndex_of a (by exact om199 a b e)
    ·(refine eqR e ?_); exact PySem.seqIndex_neg a b
   (refine eqQ e ?_)
   simpa using hc
  ·intro d hd'
   (refine eqQ (List.mem_singleton.mp hd') ?_)
   exact hcs ch (List.mem_of_getElem? hc)
 ·(have e:=(B0k ep).1; have q:=(B0k ep).2)
  rw [B1n] at hj
  replace r1:=e ▸ r1
  replace r2:=(B0u ek) ▸ r2
  refine C9h r1 fun hi=>?_
  refine D7c r2 fun t2=>?_
  k_extra "fG"; obtain ⟨hl,vs,ep,e,rs,ho⟩:=I.list hi q
  have hlen:=rs.length
  (refine B0o (rs.get h) fun u hu ru=>?_)
  have hL:=B1d ho
  rcases C7m hj with ⟨a,b,e⟩ | ⟨a,b,e,f⟩
  ·exact tail_any hL.typeIs slot_list_getitem.lookup (wpAny_getItem_list hL a (by exact om200 hz2 hl hlen b e) (by (refine eqQ b ?_); simpa using hu) (PV.same I ru)) (sub _ _)
  ·exact tail_any hL.typeIs slot_list_getitem.lookup (wpAny_getItem_list_neg hL a (by simp; exact om201 hlen b) (by exact om202 hz2 hl hlen b) (by simp only [List.size_toArray,← hlen,e]; simpa using hu) (PV.same I ru)) (sub _ _)
/- slices -/
noncomputable abbrev VRo (θ:Nat → Int) (c:Cfg) (o:Option AV) (u:Value):Prop:=match o with | Option.none=>u = .none | some v=>VR θ c v u
theorem C0q {θ:Nat → Int} {o:Option AV} {k:Option Int} (h:D2e o = some k) {u:Value} (r:VRo θ c o u):IsPart u k ∧ ∃ p:Option (Int × Tok),u = partValue p ∧ p.map (·.1) = k:=by
 cases o with
 | none=>refine B0g h ?_; refine eqQ r ?_; exact ⟨.none,Option.none,rfl,rfl⟩
 | some v =>
  k_extra "v" <;> dsimp only [D2e] at h <;> simp only [Option.some.injEq,reduceCtorEq] at h
  ·subst h; refine eqQ r ?_; exact ⟨.none,Option.none,rfl,rfl⟩
  ·subst h; (obtain ⟨t,e98⟩:=r; refine eqQ e98 ?_); exact ⟨.int _ _,some (_,t),rfl,rfl⟩
theorem B2w (n d:Nat) (o:Option Int):B1q n d o = o.elim d (clipAt n):=by
 cases o with
 | none=>rfl
 | some i =>
  show B1q n d (some i) = clipAt n i
  have h:=clipAt_cast n i
  cases i with
  | ofNat k =>
   have hk:(Int.ofNat k) = (k:Int):=rfl
   have hc:B1q n d (some (Int.ofNat k)) = if k ≤ n then k else n:=by
    show (match Nat.ble k n with | true=>k | false=>n) = _
    by_cases q:k ≤ n
    ·(refine eqQ (if_pos q) ?_; exact eqQ (Nat.ble_eq_true_of_le q) rfl)
    ·(refine eqQ (if_neg q) ?_)
     have:Nat.ble k n = false:=by
      cases z:Nat.ble k n with
      | false=>rfl
      | true=>exact absurd (nYY z) q
     (exact eqQ this rfl)
   (refine eqQ hc ?_)
   rw [hk] at h ⊢
   rw [if_neg (by exact om54)] at h
   split <;> (first | exact om203 h (by assumption) | exact om204 h (by assumption) | omega)
  | negSucc k =>
   have hc:B1q n d (some (Int.negSucc k)) = n - 1 - k:=rfl
   (refine eqQ hc ?_)
   rw [if_pos (by omega)] at h
   omega
theorem VRs.drop {θ:Nat → Int} {as:List AV} {vs:List Value} (h:VRs θ c as vs):∀ n,VRs θ c (as.drop n) (vs.drop n):=by
 induction h with
 | nil=>intro n; simp; exact .nil
 | cons r rs ih=>intro n; cases n with | zero=>exact .cons r rs | succ n=>exact ih n
theorem VRs.take {θ:Nat → Int} {as:List AV} {vs:List Value} (h:VRs θ c as vs):∀ n,VRs θ c (as.take n) (vs.take n):=by
 induction h with
 | nil=>intro n; simp; exact .nil
 | cons r rs ih=>intro n; cases n with | zero=>exact .nil | succ n=>exact .cons r (ih n)
theorem VRs.slice {θ:Nat → Int} {as:List AV} {vs:List Value} (h:VRs θ c as vs) (lo hi:Option Int):VRs θ c (Ab.slice as lo hi) (slicePick vs.toArray lo hi Option.none).toList:=by
 simp only [slicePick_plain]
 unfold Ab.slice
 simp only [B2w,B2w,h.length]
 exact (h.drop _).take _
theorem B9f {α:Type} (l:List α) (lo hi:Option Int):(Ab.slice l lo hi).length ≤ l.length:=by
 unfold Ab.slice
 (refine eqQ List.length_take ?_; refine eqQ List.length_drop ?_)
 exact om206
theorem VRs.picks {θ:Nat → Int} {as:List AV} {vs:List Value} (h:VRs θ c as vs):∀ l:List Nat,VRs θ c (Ab.picks as l) (l.filterMap (vs[·]?))
 | []=>.nil
 | i :: l=>by
  dsimp only [Ab.picks]; simp only [List.filterMap_cons]
  cases q:nth? as i with
  | none=>(refine eqQ (h.none q) ?_); exact VRs.picks h l
  | some a=>(refine B0o (h.get q) fun u hu r=>?_); (refine eqQ hu ?_); exact .cons r (VRs.picks h l)
theorem D7x (lo hi st:Option Int) (n:Nat):sbd lo hi st n = sliceBounds lo hi st n:=rfl
theorem VRs.sliceS {θ:Nat → Int} {as:List AV} {vs:List Value} (h:VRs θ c as vs) (lo hi st:Option Int):VRs θ c (Ab.sliceS as lo hi st) (slicePick vs.toArray lo hi st).toList:=by
 unfold Ab.sliceS slicePick
 rw [D7x,h.length]
 simpa using h.picks _
theorem B8z (x:List Nat) (lo hi:Option Int):Txt.slice ⟨x.toArray⟩ lo hi = ⟨(Ab.slice x lo hi).toArray⟩:=by
 have e:Builtin.Str.strSliceIndices lo hi 1 x.length = sliceRange (sliceBounds lo hi Option.none x.length).1 (sliceBounds lo hi Option.none x.length).2.1 1:=rfl
 have e2:((Builtin.Str.strSliceIndices lo hi 1 x.length).filterMap (x.toArray[·]?)) = Ab.slice x lo hi:=by
  rw [e,sliceBounds_plain]
  simp only [sliceRange_one,pick_run]
  unfold Ab.slice
  simp only [B2w,B2w]
 unfold Txt.slice
 rw [str_len]
 split
 ·rename _=>q
  have q':(Builtin.Str.strSliceIndices lo hi 1 x.length).length = x.length:=by simpa using q
  have hl:(Ab.slice x lo hi).length = x.length:=by
   rw [e,sliceBounds_plain,sliceRange_one] at q'
   simp only [List.length_map,List.length_range] at q'
   unfold Ab.slice
   simp only [B2w,B2w,List.length_take,List.length_drop]
   have hb:hi.elim x.length (clipAt x.length) ≤ x.length:=by
    cases hi with
    | none=>exact Nat.le_refl _
    | some i=>have:=clipAt_cast x.length i; exact om207 q' this
   exact om208 q' hb
  have:Ab.slice x lo hi = x:=by
   unfold Ab.slice at hl ⊢
   rw [List.length_take,List.length_drop] at hl
   by_cases hx:x.length = 0
   ·have:x = []:=List.length_eq_zero_iff.mp hx
    refine eqQ this ?_; simp
   ·have h0:B1q x.length 0 lo = 0:=by exact om209 q' hl hx
    rw [h0] at hl ⊢
    (refine eqQ List.drop_zero ?_)
    exact List.take_of_length_le (by exact om210 q' hl hx)
  (exact eqQ this rfl)
 ·show (⟨((Builtin.Str.strSliceIndices lo hi 1 x.length).filterMap (x.toArray[·]?)).toArray⟩:Str) = _
  (exact eqQ e2 rfl)
end
end Ab
end
section
open PySem PySem.W PyProof.Rows PySem.Calls PySem.SeqAt
namespace Ab
section
variable {prog:Program} {w:World} {A:Around} {D:Gd} {c:Cfg} {cx:Cx}
theorem C5t {st:Option Expr} (lo hi:Option Expr) (p:Pos) (o i:Value):∃ ops,subscripted (.Slice lo hi st p) false o i = operate ops (getItem o i):=by
 cases st with
 | none=>exact ⟨_,rfl⟩
 | some s=>exact ⟨_,rfl⟩
theorem D7t (I:Inv D c) {v x:AV} {lo hi st:Option AV} {H:St} {u ul uh us:Value} {value:Expr} {elo ehi est:Option Expr} {p:Pos} (h:slcv v lo hi st c.H = some (x,H)) (r:VR D.θ c v u) (rl:VRo D.θ c lo ul) (rh:VRo D.θ c hi uh) (rs:VRo D.θ c st us) :
  wpAny (model prog w) A (subscriptTail value (.Slice elo ehi est p) u (.ref c.s.heap.objs.size)) (PV D c x H) Nev { c.s with heap:=c.s.heap.push { cls:=.type "slice",data:=.fields #[ul,uh,us] } }:=by
 obtain ⟨ops,hsub⟩:=C5t (st:=est) elo ehi p u (.ref c.s.heap.objs.size)
 obtain ⟨I1,S1⟩:=B3m (s':={ c.s with heap:=c.s.heap.push { cls:=.type "slice",data:=.fields #[ul,uh,us] } }) I (fun a o e=>Heap.get?_push_of_some _ e) I.gens rfl rfl
 have hz2:(B6x:Nat) = 300000:=rfl
 have hz3:=B8a
 have src:∀ {i:Nat} {l:List AV} {u:Value},VR D.θ c (.ref i) u → lsO (c.H.get i) = some l → ∃ vs,l.length ≤ B6x ∧ VRs D.θ c l vs ∧ c.s.heap.IsList (c.mu i) vs.toArray:=by
  intro i l u r q
  have ro:=I.rel i r.1
  cases e:c.H.get i with
  | list l' =>
   replace q:=e ▸ q
   refine eqR (oYY q) ?_
   k_extra "fG"; k_extra "fG"; obtain ⟨hl,vs,k,e,rv,ho⟩:=I.list r.1 e
   exact ⟨vs,hl,rv,B1d ho⟩
  | stat l' =>
   rw [e] at q ro
   refine eqR (oYY q) ?_
   k_extra "fG"; obtain ⟨_,h2,vs,⟨o,ho,hr⟩,h4⟩:=ro
   exact ⟨vs,h2,h4,o,I.stat _ _ ho,hr⟩
  | _=>replace q:=e ▸ q; exact noP q
 have lst:∀ {i:Nat} {l ys:List AV} {kl kh ks:Option Int},v = .ref i → (∃ vs,l.length ≤ B6x ∧ VRs D.θ c l vs ∧ c.s.heap.IsList (c.mu i) vs.toArray) → D2e lo = some kl → D2e hi = some kh → D2e st = some ks → ks ≠ some 0 → ys.length ≤ l.length →
   (∀ vs,VRs D.θ c l vs → VRs D.θ c ys (slicePick vs.toArray kl kh ks).toList) → x = .ref c.H.n → H = (c.H.new (.list ys)).2 →
   wpAny (model prog w) A (subscriptTail value (.Slice elo ehi est p) u (.ref c.s.heap.objs.size)) (PV D c x H) Nev { c.s with heap:=c.s.heap.push { cls:=.type "slice",data:=.fields #[ul,uh,us] } }:=by
  intro i l ys kl kh ks e1 q q1 q2 q3 h0 hlen hy ex eH
  subst e1 ex eH
  obtain ⟨hi',rfl⟩:=r
  (refine B8y q fun vs hl rv hL0=>?_)
  have p1:=(C0q q1 rl).1
  have p2:=(C0q q2 rh).1
  have p3:=(C0q q3 rs).1
  have hL:Heap.IsList (Shared.heap { c.s with heap:=c.s.heap.push { cls:=.type "slice",data:=.fields #[ul,uh,us] } }) (c.mu i) vs.toArray:=hL0.push _
  have hlen2:=rv.length
  refine tail_any hL.typeIs slot_list_getitem.lookup (wpAny_getItem_list_slice hL (Heap.IsSliceOf.new ..) p1 p2 p3 h0 ?_ (by (refine eqQ List.size_toArray ?_); exact om211 hz2 hz3 hl hlen2)) hsub
  have:=PV.newList (k:=0) (tk:=c.s.toks) I1 (xs:=ys) (by exact om212 hz2 hlen hl hlen2) ((hy vs rv).mono S1)
  exact PV.after S1 I1 (by simpa using this)
 k_extra "fG"; refine onP h fun kl q1 h=>onP h fun kh q2 h=>onP h fun ks q3 h=>onP h fun i ei h=>onP h fun l el h=>?_
 have ev:=B0n ei
 k_extra "fG"; have r':=r
 replace r':=ev ▸ r'
 have sl:=src r' el
 k_extra "fG"; refine B1i h (fun k ek h=>prB h fun hk h=>B0r h fun z1 z2=>?_) fun ek h=>B0r h fun z1 z2=>?_
 ·subst ek
  refine lst ev sl q1 q2 q3 (fun e=>?_) ?_ (fun vs r=>r.sliceS _ _ _) z1 z2
  ·replace hk:=(oYY e) ▸ hk; (first | exact noP hk | exact fT hk | (first | exact noP hk | exact fT hk | exact nomatch hk))
  ·(refine B8y sl fun vs hl rv Z=>?_)
   (refine eqQ ((rv.sliceS kl kh (some k)).length) ?_; refine eqQ rv.length ?_)
   have:=slicePick_size_le vs.toArray kl kh (some k)
   simpa using this
 ·subst ek
  exact lst ev sl q1 q2 q3 (fun e=>(by first | exact noP e | exact fT e | (first | exact noP e | exact fT e | exact nomatch e))) (B9f _ _ _) (fun vs r=>r.slice _ _) z1 z2
theorem C7b:(B6x:Int) < 2 ^ 63:=by decide +kernel
/- len and friends -/
end
end Ab
end
section
open PySem PySem.W PyProof.Rows PySem.Calls PySem.SeqAt
namespace Ab
section
variable {prog:Program} {w:World} {A:Around} {D:Gd} {c:Cfg} {cx:Cx}
theorem D3y {θ:Nat → Int} {l:List AV} {x:List (List Nat)} {vs:List Value} (h:D3z l = some x) (rs:VRs θ c l vs):StrsAre vs (x.map fun s=>(⟨s.toArray⟩:Str)) ∧ (∀ s ∈ x,SOk s) ∧ x.length = l.length:=by
 induction rs generalizing x with
 | nil=>refine B0g h ?_; exact ⟨.nil,fun Z h=>((by first | exact noP h | exact fT h | exact nomatch h)),rfl⟩
 | cons r rs ih =>
  refine onP h fun s es h=>onP h fun y hy h=>B0g h ?_
  rw [B0e es] at r
  (refine C5f (ih hy) fun h1 h2 h3=>?_)
  (obtain ⟨hs,t,e98⟩:=r; refine eqQ e98 ?_)
  exact ⟨.cons _ _ h1,fun s hs'=>(List.mem_cons.mp hs').elim (fun e=>e ▸ hs) (h2 s),congrArg Nat.succ h3⟩
theorem D5l (C:CxOk D cx) {l:List AV} {vs:List Value} {a r:AV} {z:Int} (h:isum cx a l = some r) (rs:VRs D.θ c l vs) (ha:∀ t,VR D.θ c a (.int z t)) :
  ∃ xs:List (Int × Tok),vs = xs.map (fun p=>Value.int p.1 p.2) ∧ ∀ t,VR D.θ c r (.int ((xs.map (·.1)).foldl (· + ·) z) t):=by
 induction rs generalizing a z with
 | nil=>refine B0g h ?_; exact ⟨[],rfl,ha⟩
 | cons rv rs ih =>
  refine onP h fun b hb h=>?_
  (refine D6u (B3c C hb (ha 0) rv) fun x y t1 t2 e1 e95 hr=>?_; refine eqQ e95 ?_)
  k_extra "e1"
  ((refine B0o (ih h hr) fun xs e98 hx=>?_); refine eqQ e98 ?_)
  exact ⟨(y,t2) :: xs,rfl,hx⟩
theorem B4r (xs:List Int):∀ n,n ≤ xs.length → preSum (fun i=>(xs[i]?).getD 0) n = (xs.take n).foldl (· + ·) 0
 | 0,J=>by simp [preSum]
 | n + 1,h=>by
  have:n < xs.length:=by exact om4 h
  simp only [preSum,B4r xs n (by exact om220 h),List.take_add_one,List.getElem?_eq_getElem this,List.foldl_append]
  rfl
theorem D1m (I:Inv D c) (C:CxOk D cx) (hh:A.handled = none) {b:BI} {vs:List AV} {us:List Value} {v:AV} {H:St} (h:D6p cx b vs c.H = some (v,H)) (r:VRs D.θ c vs us) :
  wpAny (model prog w) A (call b.val us) (PV D c v H) Nev c.s:=by
 cases b with
 | range=>exact onP h fun Z Z h=>noP h
 | enumerate=>exact onP h fun Z Z h=>noP h
 | len =>
  refine onP h fun a h1 h=>?_
  replace r:=(B0c h1) ▸ r
  (obtain ⟨h9,e98⟩:=B0v h; refine eqR e98 ?_)
  refine vC r fun _ _ ra rr=>?_
  ·refine vN rr ?_
   refine onP h9 fun p hp h9=>?_
   obtain ⟨e9,q⟩:=B0k hp
   rw [e9] at ra
   cases h9
   refine C9h ra fun hi=>?_
   obtain ⟨hl,us,k,e,rs,ho⟩:=I.list hi q
   have hlen:=rs.length
   have:=C7b
   refine Calls.call_len_list (B1d ho) (by rw [List.size_toArray]; exact om55 hl hlen this) ?_
   rw [List.size_toArray,← hlen,← B1n]
   exact PV.tok I ⟨_,rfl⟩
 | int =>
  refine onP h fun a h1 h=>prB h fun hi h=>?_
  replace r:=(B0c h1) ▸ r
  (clear h1; k_extra "h")
  refine vC r fun _ _ ra rr=>?_
  ·(clear h; refine vN rr ?_)
   cases v with
   | int i=>refine D7c ra fun t=>?_; exact call_int_int (PV.same I ⟨t,rfl⟩)
   | sym e=>obtain ⟨t,rfl⟩:=ra; exact call_int_int (PV.same I ⟨t,rfl⟩)
   | _=>exact absurd hi Bool.false_ne_true
 | sum =>
  refine onP h fun a h1 h=>onP h fun p hp h=>?_
  obtain ⟨e9,q⟩:=B0k hp
  obtain ⟨i,l⟩:=p
  dsimp only at e9 q h
  rw [B0c h1,e9] at r
  refine vC r fun _ _ ra rr=>?_
  ·refine vN rr ?_
   refine C9h ra fun hi=>?_
   ·((have h9:=(B0v h).1; have e98:=(B0v h).2); refine eqR e98 ?_)
    k_extra "fG"; obtain ⟨hl,us,k,e,rs,ho⟩:=I.list hi q
    (refine B0o (D5l C h9 rs (fun t=>⟨t,rfl⟩)) fun xs e91 hx=>?_; (clear e; subst e91))
    have hL:c.s.heap.IsList (c.mu i) (intItems xs.toArray):=by
     have:=B1d ho
     simpa [intItems] using this
    refine sum_intListG hh hL fun h' tk t' hk=>?_
    have e2:preSum (numAt xs.toArray) xs.toArray.size = (xs.map (·.1)).foldl (· + ·) 0:=by
     have e3:numAt xs.toArray = fun i=>((xs.map (·.1))[i]?).getD 0:=by
      funext i
      unfold numAt
      simp
     (refine eqQ e3 ?_; refine eqQ (B4r _ _ (by simp)) ?_; exact eqQ (List.take_of_length_le (by simp)) rfl)
    (refine eqQ e2 ?_)
    exact PV.here I hk (hx _) rfl rfl rfl
 | list =>
  refine onP h fun a h1 h=>onP h fun s hs9 h=>prB h fun hb9 h=>?_
  rw [B0c h1,B0e hs9] at r
  k_extra "h"
  cases r with
  | cons ra rr =>
   cases rr
   obtain ⟨hs,t,rfl⟩:=ra
   have h1:=hs.1
   have hz:(lim:Nat) = 100000:=rfl
   have hz2:(B6x:Nat) = 300000:=rfl
   have hz3:=B6w
   refine call_list_str hh _ _ (fun h' tk acc' c' hk hg hI=>?_) (by show s.toArray.size ≤ _; rw [List.size_toArray]; omega)
   refine PV.new I (B4h _) hg hk ⟨by rw [List.length_map]; omega,acc'.toList,c',by simp,?_⟩
   have key:∀ (x:List Nat) (us:List Value),(∀ ch ∈ x,ch < 0x110000) → us.length = x.length → (∀ (j:Nat) (v:Value),us[j]? = some v → ∃ (ch:Nat) (u:Tok),x[j]? = some ch ∧ v = Value.str ⟨#[ch]⟩ u) → VRs D.θ c (x.map fun ch=>AV.str [ch]) us:=by
    intro x
    induction x with
    | nil=>intro us _ hl _; have:us = []:=List.length_eq_zero_iff.mp hl; subst this; exact .nil
    | cons a x ih =>
     intro us hx hl hj
     cases us with
     | nil=>cases hl
     | cons u us =>
      obtain ⟨ch,t2,h1,rfl⟩:=hj 0 u rfl
      k_extra "h1"
      refine .cons ⟨⟨by simp [lim],fun ch hc=>by rw [List.mem_singleton.mp hc]; exact hx _ (.head _)⟩,t2,rfl⟩ (ih us (fun ch hc=>hx ch (.tail _ hc)) (by simpa using hl) fun j v hv=>?_)
      have:=hj (j + 1) v (by simpa using hv)
      simpa using this
   refine (key s acc'.toList hs.2 (by have:=hI.1; simpa using this) fun j v hv=>?_).ext (Ext.add ..)
   obtain ⟨ch,t2,h1,rfl⟩:=hI.2 j v (by simpa using hv)
   exact ⟨ch,t2,by simpa using h1,rfl⟩
end
end Ab
end
section
open PySem PySem.W PyProof.Rows PySem.Calls PySem.SeqAt
namespace Ab
section
variable {prog:Program} {w:World} {A:Around} {D:Gd} {c:Cfg} {cx:Cx}
theorem PV.put (I:Inv D c) {i:Nat} (hi:i < c.H.n) {o:AO} {obj obj':Obj} {h':Heap} {tk:Nat} {v:AV} {u:Value} (he:c.ent i = [(c.mu i,obj)]) (hs:Heap.SameBut (c.mu i) c.s.heap h') (hh:h'.get? (c.mu i) = some obj')
  (r:OR D c o (c.mu i) [(c.mu i,obj')]) (rv:VR D.θ c v u):PV D c v (c.H.set i o) u { c.s with heap:=h',toks:=tk }:=by
 obtain ⟨I',S'⟩:=D2b (s':={ c.s with heap:=h',toks:=tk }) I hi (e:=[(c.mu i,obj')]) (by (exact eqQ he rfl)) (fun p hp=>by (refine eqQ (List.mem_singleton.mp hp) ?_); exact hh)
  (fun b x hb e=>hs.extBut b x (fun q=>hb (by (refine eqQ he ?_; refine eqQ q ?_); exact .head _)) e) r I.gens rfl rfl
 exact ⟨_,rfl,rfl,I',S',rv.mono S'⟩
theorem C0g (I:Inv D c) {i:Nat} (hi:i < c.H.n) {l:List AV} (q:c.H.get i = .list l) {v:AV} {u:Value} (r:VR D.θ c v u) (hl:l.length ≤ lim) :
  wpAny (model prog w) A (call (.builtin "list.append") [.ref (c.mu i),u]) (PV D c .none (c.H.set i (.list (l ++ [v])))) Nev c.s:=by
 k_extra "fG"; obtain ⟨hl2,vs,k,e,rs,ho⟩:=I.list hi q
 have hlen:=rs.length
 have hz:(lim:Nat) = 100000:=rfl
 have hz2:(B6x:Nat) = 300000:=rfl
 have:=B6w
 refine wpAny_list_append_plain (hsz:=by (refine eqQ List.size_toArray ?_); exact om225 hl hlen hz this) ⟨k,ho⟩ fun h' ⟨k',hp⟩ hs=>?_
 exact PV.put I hi e hs hp ⟨by simp; exact om226 hl hlen hz hz2,vs ++ [u],k',by simp,rs.append (.cons r .nil)⟩ rfl
theorem C6d {θ:Nat → Int} {v:AV} {H:St} {l:List AV} (h:C6e v H l = true):∃ d ds,dat θ 4 v H = some d ∧ C1t (dat θ 4) H l = some ds:=by
 k_extra "fG"; obtain ⟨h1,h2⟩:=(Bool.and_eq_true _ _).mp h
 obtain ⟨d,hd⟩:=B4e θ H 4 v h1
 obtain ⟨ds,hds⟩:=B7w (B4e θ H 4) l h2
 exact ⟨d,ds,hd,hds⟩
theorem C6q {o:Option Nat} {H H':St} {v:AV} (h:natI o H = some (v,H')):∃ k:Nat,o = some k ∧ v = .int k ∧ H = H':=by
 cases o with
 | none=>k_extra "h"
 | some k=>refine B0j h ?_; exact ⟨k,rfl,rfl,rfl⟩
theorem C7o (C:CxOk D cx) {v:AV} {H:St} {d:PyData} (hd:dat D.θ 4 v H = some d):∀ {l:List AV} {k:Nat} {ds:List PyData},idxL cx v H l = some k → C1t (dat D.θ 4) H l = some ds →
  (∃ y,ds[k]? = some y ∧ PyData.eqv y d = true) ∧ ∀ m y,m < k → ds[m]? = some y → PyData.eqv y d = false
 | [],k,ds,h,h1=>nomatch h
 | x :: l,k,ds,h,h1=>by
  refine B0a h1 fun e e1 h1=>B0a h1 fun es e2 h1=>B0m h1 fun z=>onP h fun q q1 h=>?_
  subst z
  have qe:=C3i C H 4 _ _ _ _ _ q1 e1 hd
  cases q with
  | true =>
   have z:=oYY h
   subst z
   exact ⟨⟨e,rfl,qe⟩,fun m y hm=>absurd hm (Nat.not_lt_zero _)⟩
  | false =>
   refine onP h fun k' hk h=>B0m h fun z=>?_
   subst z
   obtain ⟨⟨y,h1,h2⟩,h3⟩:=C7o C hd hk e2
   refine ⟨⟨y,by simpa using h1,h2⟩,fun m z hm hz=>?_⟩
   cases m with
   | zero=>have hz:=oYY hz; subst hz; exact qe
   | succ m=>exact h3 m z (Nat.lt_of_succ_lt_succ hm) (by simpa using hz)
theorem D0p (I:Inv D c) (C:CxOk D cx) (hu:A.units + 74 < cLine) {i:Nat} (hi:i < c.H.n) {l:List AV} (q:c.H.get i = .list l) {v x:AV} {u:Value} {H:St} (r:VR D.θ c v u) (hp:C6e v c.H l = true) (h:natI (idxL cx v c.H l) c.H = some (x,H)) :
  wpAny (model prog w) A (call (.builtin "list.index") [.ref (c.mu i),u]) (PV D c x H) Nev c.s:=by
 obtain ⟨k,hk,rfl,rfl⟩:=C6q h
 obtain ⟨d,ds,hd,hds⟩:=C6d (θ:=D.θ) hp
 obtain ⟨as,ra,hc,hdp⟩:=B2q I 4 _ _ _ hd r
 obtain ⟨hl1,vs,ep,e,rs,ho⟩:=I.list hi q
 obtain ⟨bs,rb,hc2,hd2⟩:=C6b I 4 (B2q I 4) rs hds
 obtain ⟨⟨y,hy1,hy2⟩,hno⟩:=C7o C hd hk hds
 have hmap:=readsAll_map ds _ _ hc2 rb
 have hkl:k < ds.length:=(List.getElem?_eq_some_iff.mp hy1).1
 have hlen:vs.length = ds.length:=by rw [← hmap]; simp
 have hz:=C7b
 have hrl:=rs.length
 have at':∀ m (hm:m < vs.toArray.size),∃ y,ds[m]? = some y ∧ readOf c.s.heap vs.toArray[m] = y:=by
  intro m hm
  have hm':m < vs.length:=by simpa using hm
  refine ⟨readOf c.s.heap vs[m],?_,by simp⟩
  rw [← hmap]
  simp [hm']
 refine call_meets PySem.F.slot_list_index ⟨_,ho,rfl⟩ PySem.F.entry_list_index (PySem.F.args_list_index_2 _ _) (list_indexAt _ vs.toArray ep none #[] u (fun y=>PyData.eqv (readOf c.s.heap y) d) k (by simp; omega) (by omega) ?_ ?_) ⟨ho,fun y hy=>?_,?_⟩
 ·obtain ⟨y',h1,h2⟩:=at' k (by simp; omega)
  rw [hy1] at h1; k_extra "h1"
  show PyData.eqv _ d = true
  rw [h2]; exact hy2
 ·intro m hm hlt
  obtain ⟨y',h1,h2⟩:=at' m hm
  show PyData.eqv _ d = false
  rw [h2]; exact hno m y' hlt h1
 ·exact (items_eqAt (vs:=vs.toArray) (A:=A) (by simpa using rb) ra hc2 hc (by omega) y hy)
 ·exact PV.tok I ⟨_,rfl⟩
theorem B4j (ch:Nat):∀ x:List Nat,C3t ch x = x.count ch
 | []=>rfl
 | a :: x=>by
  dsimp only [C3t]
  rw [BT.beq_eq,B4j ch x,List.count_cons]
  by_cases h:a = ch <;> simp [h]
theorem B7f (ch:Nat):∀ x:List Nat,PySem.Spec.countIn (.str ⟨#[ch]⟩) (x.map fun n=>PyData.str ⟨#[n]⟩) = (x.count ch:Nat)
 | []=>rfl
 | a :: x=>by
  simp only [List.map_cons,PySem.Spec.countIn,B7f ch x,List.count_cons]
  have:PySem.Spec.same (.str ⟨#[a]⟩) (.str ⟨#[ch]⟩) = decide (a = ch):=by
   unfold PySem.Spec.same
   rw [Bool.eq_iff_iff]
   simp
  by_cases h:a = ch
  ·rw [this,decide_eq_true h]; simp [h]; exact om234
  ·rw [this,decide_eq_false h]; simp [h]
theorem C5h (x:List Nat) (ch:Nat):Txt.count ⟨x.toArray⟩ ⟨[ch].toArray⟩ = (C3t ch x:Nat):=by
 simp only [show (⟨[ch].toArray⟩:Str) = ⟨#[ch]⟩ from rfl,count_is,B4j]
 exact B7f ch x
theorem C2b (d:List Nat):∀ l:List (List Nat),Str.join ⟨d.toArray⟩ (l.map fun s=>(⟨s.toArray⟩:Str)) = ⟨(B2k d l).toArray⟩
 | []=>rfl
 | [s]=>rfl
 | s :: t :: r=>by
  show (⟨s.toArray⟩:Str) ++ ⟨d.toArray⟩ ++ Str.join ⟨d.toArray⟩ ((t :: r).map fun s=>(⟨s.toArray⟩:Str)) = _
  simp only [C2b d (t :: r),B2l,B2l,List.append_assoc]
  rfl
end
end Ab
end
section
set_option backward.match.sparseCases false
open PySem PySem.W PyProof.Rows PySem.Calls PySem.SeqAt
namespace Ab
section
variable {prog:Program} {w:World} {A:Around} {D:Gd} {c:Cfg} {cx:Cx}
theorem B9d {θ:Nat → Int} {l:List AV} {x:List (List Nat)} {vs:List Value} (h:D3z l = some x) (rs:VRs θ c l vs):∃ ts:List (Str × Tok),vs = strValues ts ∧ ts.map (·.1) = x.map fun s=>(⟨s.toArray⟩:Str):=by
 induction rs generalizing x with
 | nil=>refine B0g h ?_; exact ⟨[],rfl,rfl⟩
 | cons r rs ih =>
  refine onP h fun s es h=>onP h fun y hy h=>B0g h ?_
  rw [B0e es] at r
  ((refine B0o (ih hy) fun ts e98 h2=>?_); refine eqQ e98 ?_)
  (obtain ⟨hs,t,e98⟩:=r; refine eqQ e98 ?_)
  exact ⟨(_,t) :: ts,rfl,by (refine eqQ List.map_cons ?_; exact eqQ h2 rfl)⟩
theorem C2x (d:List Nat):∀ (l:List (List Nat)) (z:Nat),(l.map fun s=>(⟨s.toArray⟩:Str)).toArray.foldl (fun n s=>n + s.length + d.length) z ≤ z + (B2k d l).length + d.length
 | [],z=>by simp; exact om161
 | [s],z=>by dsimp only [B2k]; simp [Str.length]
 | s :: t :: r,z=>by
  have ih:=C2x d (t :: r) (z + s.length + d.length)
  have e:((s :: t :: r).map fun s=>(⟨s.toArray⟩:Str)).toArray.foldl (fun n s=>n + s.length + d.length) z = ((t :: r).map fun s=>(⟨s.toArray⟩:Str)).toArray.foldl (fun n s=>n + s.length + d.length) (z + s.length + d.length):=by
   simp [Str.length]
  (refine eqQ e ?_)
  have e2:B2k d (s :: t :: r) = s ++ (d ++ B2k d (t :: r)):=rfl
  simp only [e2,List.length_append,List.length_append]
  exact om162 ih e
theorem B9p {d:List Nat} {a:Nat}:∀ {l:List (List Nat)},a ∈ B2k d l → a ∈ d ∨ ∃ s ∈ l,a ∈ s
 | [],h=>(by first | exact noP h | exact fT h | exact nomatch h)
 | [s],h=>.inr ⟨s,.head _,h⟩
 | s :: t :: r,h=>by
  have e2:B2k d (s :: t :: r) = s ++ (d ++ B2k d (t :: r)):=rfl
  rw [e2] at h
  rcases List.mem_append.mp h with h | h
  ·exact .inr ⟨s,.head _,h⟩
  ·k_extra "fG"; rcases List.mem_append.mp h with h | h
   ·exact .inl h
   ·rcases B9p h with h | ⟨x,hx,h⟩
    ·exact .inl h
    ·exact .inr ⟨x,.tail _ hx,h⟩
theorem B9t (I:Inv D c) {d:List Nat} {t:Tok} (hd:SOk d) {i:Nat} (hi:i < c.H.n) {l:List AV} (q:c.H.get i = .list l) {x:List (List Nat)} {v:AV} (conv:∀ vs,VRs D.θ c l vs → ∃ l',D3z l' = some x ∧ VRs D.θ c l' vs) (hv:∀ u,VR D.θ c (.str (B2k d x)) u → VR D.θ c v u) (hlen:(B2k d x).length ≤ lim) :
  wpAny (model prog w) A (call (.builtin "str.join") [.str ⟨d.toArray⟩ t,.ref (c.mu i)]) (PV D c v c.H) Nev c.s:=by
 k_extra "fG"; obtain ⟨hl1,vs,k,e,rs0,ho⟩:=I.list hi q
 obtain ⟨l',hx,rs⟩:=conv vs rs0
 (refine B0o (B9d hx rs) fun ts e91 hts=>?_; (clear e; subst e91))
 (refine C5f (D3y hx rs) fun Z hok Z=>?_)
 have h1:=hd.1
 have hz:(lim:Nat) = 100000:=rfl
 have hz4:200000 ≤ sizeLine:=by decide +kernel
 refine SC.join (B1d ho) hts ?_ fun t' k'=>?_
 ·unfold JoinOk
  have:=C2x d x 0
  simp only [Builtin.Str.tooLong,str_len,Bool.not_eq_true',decide_eq_false_iff_not,Nat.not_lt]
  exact om163 hlen h1 hz hz4 this
 ·rw [eq_of_beq (join_plain_closes _ _),C2b]
  refine PV.tok I (hv _ ⟨⟨hlen,fun a ha=>?_⟩,_,rfl⟩)
  k_extra "fG"; rcases B9p ha with h | ⟨s,hs,h⟩
  ·exact hd.2 a h
  ·exact (hok s hs).2 a h
theorem D5g (I:Inv D c) {d:List Nat} {t:Tok} (hd:SOk d) {i:Nat} (hi:i < c.H.n) {l:List AV} (q:c.H.get i = .list l) {x:List (List Nat)} (hx:D3z l = some x) (hlen:(B2k d x).length ≤ lim) :
  wpAny (model prog w) A (call (.builtin "str.join") [.str ⟨d.toArray⟩ t,.ref (c.mu i)]) (PV D c (.str (B2k d x)) c.H) Nev c.s:=B9t I hd hi q (fun vs rs=>⟨l,hx,rs⟩) (fun u h=>h) hlen
theorem C4t (a:List Nat):∀ x:List (List Nat),B2k [] (a :: x) = a ++ B2k [] x
 | []=>(List.append_nil a).symm
 | b :: x=>rfl
theorem D2c {θ:Nat → Int}:∀ {l:List AV} {gs:List Pc},pcL l = some gs → (∃ vs,VRs θ c l vs) → ∃ x,B2k [] x = B1o θ gs ∧ ∀ vs,VRs θ c l vs → ∃ l',D3z l' = some x ∧ VRs θ c l' vs
 | [],gs,h,r=>⟨[],(oYY h) ▸ rfl,fun vs r=>⟨[],rfl,r⟩⟩
 | a :: l,gs,h,⟨vs,r⟩=>by
  refine onP h fun p hp h=>onP h fun q hq h=>?_
  cases r with
  | cons r1 rs =>
   obtain ⟨y,ty,e1,e2,e3⟩:=C2n hp r1
   obtain ⟨x,h1,h2⟩:=D2c hq ⟨_,rs⟩
   refine ⟨y :: x,by rw [C4t,h1,← oYY h,B4b,B8n,e3],fun vs r=>?_⟩
   cases r with
   | cons r1' rs' =>
    obtain ⟨y',ty',f1,f2,f3⟩:=C2n hp r1'
    obtain ⟨l',g1,g2⟩:=h2 _ rs'
    refine ⟨.str y :: l',by show onB (D3z l') (fun l=>some (y :: l)) = _; rw [g1]; rfl,.cons ?_ g2⟩
    have:y = y':=e3.symm.trans f3
    subst this
    exact ⟨f2,ty',f1⟩
theorem C4s (I:Inv D c) {t:Tok} {i:Nat} (hi:i < c.H.n) {l:List AV} (q:c.H.get i = .list l) {gs:List Pc} {v:AV} (hg:pcL l = some gs) (hv:pcV gs = some v) :
  wpAny (model prog w) A (call (.builtin "str.join") [.str ⟨([]:List Nat).toArray⟩ t,.ref (c.mu i)]) (PV D c v c.H) Nev c.s:=by
 obtain ⟨rfl,hl⟩:=C6g hv
 obtain ⟨hl1,vs,k,e,rs0,ho⟩:=I.list hi q
 obtain ⟨x,h1,h2⟩:=D2c hg ⟨vs,rs0⟩
 refine B9t I ⟨Nat.zero_le _,fun a h=>absurd h List.not_mem_nil⟩ hi q h2 (fun u h=>?_) (by rw [h1]; exact hl D.θ)
 rw [h1] at h
 exact h
/- the world of the evaluator -/
noncomputable def GV:AV → Value → Prop
 | .glob a,u=>u = .ref a
 | .bi b,u=>u = b.val
 | .int i,u=>∃ t,u = .int i t
 | J,Y=>False
theorem GV.vr {θ:Nat → Int} {c:Cfg} {v:AV} {u:Value} (h:GV v u):VR θ c v u:=by k_extra "v" <;> first | exact h | exact h.elim
noncomputable def GlobOk (prog:Program) (w:World) (D:Gd) (g:G):Prop:=∀ x v,g.lookup x = some v → ∃ u,GV v u ∧ ∀ {A:Around} {E:Value → Shared → Prop} {s:Shared} {env:Env} {Q:Value → Shared → Prop},
 (∀ a o,D.b0.get? a = some o → s.heap.get? a = some o) → env.globals = mainGlobals → env.builtins = builtinsNs → Q u s → wpAny (model prog w) A (loadGlobal env x) Q E s
theorem C3c {x y:Str} {i:Nat}:∀ {l:List Str},idxS x l = some i → idxS y l = some i → x = y
 | [],h,J=>by k_extra "h"
 | z :: l,h,g=>by
  k_extra "fG"; unfold idxS at h g
  by_cases hx:x = z
  ·replace h:=(if_pos hx) ▸ h
   k_extra "h"
   by_cases hy:y = z
   ·exact hx.trans hy.symm
   ·rw [if_neg hy] at g
    (refine B0o (Option.map_eq_some_iff.mp g) fun k Z hk=>?_)
    exact om164 hk
  ·replace h:=(if_neg hx) ▸ h
   (refine B0o (Option.map_eq_some_iff.mp h) fun k hk e92=>?_; subst e92)
   by_cases hy:y = z
   ·replace g:=(if_pos hy) ▸ g; (first | exact noP g | exact fT g | exact absurd g (fun e=>nomatch e))
   ·replace g:=(if_neg hy) ▸ g
    (refine B0o (Option.map_eq_some_iff.mp g) fun k' hk' e=>?_)
    have:k' = k:=by exact om165 e
    (clear h; (clear e; subst this))
    exact C3c hk hk'
theorem B1c {env:Env} {ly:Ly} {f:Fm} (F:FR D c env ly f) (x:Str):env.kindOf x = ly.sc.lookup x:=by unfold Env.kindOf; (exact eqQ F.names rfl)
theorem B9w {v:AV}:∀ {l:List (Option AV)} {i:Nat},getF l i = some v → nth? l i = some (some v)
 | [],i,h=>noP h
 | a :: l,0,h=>congrArg some h
 | a :: l,i + 1,h=>B9w (l:=l) h
theorem B1h {f:Fm} {i:Nat} {v:AV} (h:B4t f i = some v):nth? f.loc i = some (some v):=B9w h
theorem C8n {o:AO} {v:AV} (h:celW o = some v):o = .cell (some v):=by k_extra "o" <;> first | exact congrArg AO.cell h | exact noP h
theorem B6c {f:Fm} {i:Nat} {H:St} {v:AV} (h:getC f i H = some v):∃ id,nth? f.cel i = some id ∧ H.get id = .cell (some v):=onP h fun id hid h=>⟨id,hid,C8n h⟩
theorem B8p (I:Inv D c) {i:Nat} (hi:i < c.H.n) {v:Option AV} (q:c.H.get i = .cell v):∃ o u,c.ent i = [(c.mu i,o)] ∧ o.data = .cell u ∧ (∀ x,v = some x → ∃ y,u = some y ∧ VR D.θ c x y) ∧ c.s.heap.get? (c.mu i) = some o:=by
 k_extra "fG"; have r:=I.rel i hi
 rw [q] at r
 (refine F1d r fun o u e d h=>?_)
 exact ⟨o,u,e,d,h,I.hold i hi (c.mu i,o) (by (refine eqQ e ?_); exact .head _)⟩
theorem B7x (I:Inv D c) {g:G} (G:GlobOk prog w D g) {env:Env} {ly:Ly} {f:Fm} (F:FR D c env ly f) {x:Str} {p:Pos} {e:E} {v:AV} {H:St} {r:Rn} (hc:cName g ly x = some e) (h:evC cx r e f c.H = some (v,H)) :
  wpAny (model prog w) A (eval (.Name x p) env) (PV D c v H) Nev c.s:=by
 refine D3f hc (fun hd hk hc=>?_) (fun hd hk hc=>?_) (fun hd hk hcd hc=>?_) fun hd hk hc=>?_
 ·(refine B0o (Option.map_eq_some_iff.mp hc) fun i hi e92=>?_; subst e92)
  (obtain ⟨h9,e98⟩:=B0v h; refine eqR e98 ?_)
  (k_extra "fG"; refine B0o F.ns fun m hm hl=>?_)
  (refine B0o (hl i x v hi (B1h h9)) fun u hu ru=>?_)
  exact wpAny_Name (wpAny_loadName_local F.kind (by rw [B1c F]; exact hk) hm hu (PV.same I ru)) (beq_eq_false_iff_ne.mpr hd)
 ·obtain ⟨j,hj,rfl⟩:=Option.map_eq_some_iff.mp hc
  (obtain ⟨h9,e98⟩:=B0v h; refine eqR e98 ?_)
  (refine B0o (B6c h9) fun id hid q=>?_)
  obtain ⟨hn,hl⟩:=F.cel x j id hj hid
  (refine D3n (B8p I hn q) fun o u e d hr ho=>?_)
  (refine B0o (hr _ rfl) fun y e91 ry=>?_; subst e91)
  exact wpAny_Name (wpAny_loadName_cell F.kind (by rw [B1c F]; exact hk) hl ⟨o,ho,d⟩ (PV.same I ry)) (beq_eq_false_iff_ne.mpr hd)
 ·(refine B0o (Option.map_eq_some_iff.mp hc) fun j hj e92=>?_; subst e92)
  (obtain ⟨h9,e98⟩:=B0v h; refine eqR e98 ?_)
  (refine B0o (B6c h9) fun id hid q=>?_)
  obtain ⟨hn,hl⟩:=F.cel x j id hj hid
  (refine D3n (B8p I hn q) fun o u e d hr ho=>?_)
  (refine B0o (hr _ rfl) fun y e91 ry=>?_; subst e91)
  exact wpAny_Name (wpAny_loadName_free F.kind (by rw [B1c F]; exact hk) hl ⟨o,ho,d⟩ (PV.same I ry) (by simpa using hcd)) (beq_eq_false_iff_ne.mpr hd)
 ·(refine B0o (Option.map_eq_some_iff.mp hc) fun v' hv e92=>?_; subst e92)
  (clear hc; k_extra "h")
  (refine B0o (G x v hv) fun u gu hl=>?_)
  exact Name_function_global F.kind (by rw [B1c F]; exact hk) (hl I.stat F.glb F.blt (PV.same I gu.vr)) (beq_eq_false_iff_ne.mpr hd)
end
end Ab
end
section
open PySem PySem.W PyProof.Rows PySem.Calls PySem.SeqAt
namespace Ab
structure LexSpec (prog:Program) (w:World) (D:Gd) (pushA tokA:Addr):Prop where
 gpush:∀ {A:Around} {d:Nat} {c:Cfg} {env:Env} {i:Nat} {y:List Nat} {k:Nat} {pb:List AV} {Q:Value × List Value → Shared → Prop} {pl:Sem Bool},Inv D c → AOk D A d c env → i < c.H.n → c.H.get i = .lex y k pb →
  Q (.ref pushA,[.ref (c.mu i)]) c.s → wpAny (model prog w) A (getMethod (.ref (c.mu i)) "push_token" pl) Q Nev c.s
 gtok:∀ {A:Around} {d:Nat} {c:Cfg} {env:Env} {i:Nat} {y:List Nat} {k:Nat} {pb:List AV} {Q:Value × List Value → Shared → Prop} {pl:Sem Bool},Inv D c → AOk D A d c env → i < c.H.n → c.H.get i = .lex y k pb →
  Q (.ref tokA,[.ref (c.mu i)]) c.s → wpAny (model prog w) A (getMethod (.ref (c.mu i)) "get_token" pl) Q Nev c.s
 fpush:∃ o fd,D.b0.get? pushA = some o ∧ o.data = .func fd
 ftok:∃ o fd,D.b0.get? tokA = some o ∧ o.data = .func fd
 push:∀ {A:Around} {d:Nat} {c:Cfg} {env:Env} {i:Nat} {y:List Nat} {k:Nat} {pb:List AV} {v:AV} {u:Value},Inv D c → AOk D A d c env → i < c.H.n → c.H.get i = .lex y k pb → pb.length ≤ 900 → VR D.θ c v u →
  wpAny (model prog w) A (call (.ref pushA) [.ref (c.mu i),u]) (PV D c .none (c.H.set i (.lex y k (pb ++ [v])))) Nev c.s
 tok:∀ {A:Around} {d:Nat} {c:Cfg} {env:Env} {i:Nat} {v:AV} {H:St},Inv D c → AOk D A d c env → i < c.H.n → (∀ cx,mcall cx (.ref i) .tok [] c.H = some (v,H)) →
  wpAny (model prog w) A (call (.ref tokA) [.ref (c.mu i)]) (PV D c v H) Nev c.s
 line:∀ {A:Around} {d:Nat} {c:Cfg} {env:Env} {i:Nat} {y:List Nat} {k:Nat} {pb:List AV} {Q:Value → Shared → Prop},Inv D c → AOk D A d c env → i < c.H.n → c.H.get i = .lex y k pb → y ≠ [] →
  (∀ t tk,Q (.int (lineNo y k) t) { c.s with toks:=tk }) → wpAny (model prog w) A (getAttr (.ref (c.mu i)) "lineno" true) Q Nev c.s
noncomputable def DefR (D:Gd) (g:G) (a:Addr) (fc:FnC):Prop:=∃ (o:Obj) (fd:FuncData) (params:Arguments) (body:List Stmt),D.b0.get? a = some o ∧ o.data = .func fd ∧ fd.body = .stmts body ∧ cFn g params body fd.scope = some fc ∧
 (∀ vals:List Value,vals.length = params.args.length → bindArgs fd ⟨vals,[]⟩ = pure ((params.args.map (·.arg)).zip vals)) ∧ fd.closure = [] ∧ fd.globals = mainGlobals ∧ fd.builtins = builtinsNs ∧ D.b0.NoLimit ∧ D.b0.CodeRec fd.code fd.qualname ∧
 fd.scope.isCoroutine = false ∧ fd.scope.isGenerator = false ∧ fd.scope.kind = .function
noncomputable def PrimR (prog:Program) (w:World) (D:Gd) (a:Addr) (m:Nat) (p:List AV → St → Option (AV × St)):Prop:=∀ (vs:List AV) (us:List Value) (c:Cfg) (A:Around) (d:Nat) (env:Env) (v:AV) (H:St),m ≤ d → p vs c.H = some (v,H) → Inv D c → VRs D.θ c vs us → AOk D A d c env →
 (∃ o fd,D.b0.get? a = some o ∧ o.data = .func fd) ∧ wpAny (model prog w) A (call (.ref a) us) (PV D c v H) Nev c.s
structure Wd (prog:Program) (w:World) (D:Gd) (cx:Cx) (g:G):Prop where
 hP:D.P = w.params
 hN:D.b0.NoLimit
 C:CxOk D cx
 G:GlobOk prog w D g
 L:∃ pushA tokA,LexSpec prog w D pushA tokA
 F:∀ a fc,lookN cx.ft a = some fc → DefR D g a fc
 P:∀ a m p,lookN cx.pr a = some (m,p) → PrimR prog w D a m p
inductive CP (D:Gd) (c:Cfg) (i0:Nat) (H:St) (acc:Value) (C:Addr) (s:Shared):Prop
 | mk (c':Cfg) (hs:c'.s = s) (hH:c'.H = H) (I:Inv D c') (S:Stp Option.none c c') (ha:acc = .ref (c'.mu i0)) (hi:i0 < c'.H.n) (hm:∃ m,s.heap.Ns C m) (hn:c.s.heap.get? C = Option.none) (ht:¬ Trk c' C)
noncomputable def B8v (D:Gd) (a:Addr):Prop:=∃ o fd,D.b0.get? a = some o ∧ o.data = .func fd
section
variable (prog:Program) (w:World) (D:Gd) (cx:Cx) (g:G)
noncomputable def EvOk (r:Rn):Prop:=∀ (ly:Ly) (env:Env) (f:Fm) (c:Cfg) (A:Around) (n:Nat) (e:Expr) (E':E) (v:AV) (H:St),cE g n ly e = some E' → r.ev E' f c.H = some (v,H) → Inv D c → FR D c env ly f → AOk D A f.dep c env →
 wpAny (model prog w) A (eval e env) (PV D c v H) Nev c.s
noncomputable def TsOk (r:Rn):Prop:=∀ (ly:Ly) (env:Env) (f:Fm) (c:Cfg) (A:Around) (n:Nat) (e:Expr) (E':E) (b:Bool) (H:St),cE g n ly e = some E' → r.ts E' f c.H = some (b,H) → Inv D c → FR D c env ly f → AOk D A f.dep c env →
 wpAny (model prog w) A (isTrue e env (eval e env)) (PB D c b H) Nev c.s
noncomputable def CaOk (r:Rn):Prop:=∀ (d:Nat) (a:Addr) (vs:List AV) (us:List Value) (c:Cfg) (A:Around) (env:Env) (v:AV) (H:St),r.ca d (.glob a) vs c.H = some (v,H) → Inv D c → VRs D.θ c vs us → AOk D A d c env →
 B8v D a ∧ wpAny (model prog w) A (call (.ref a) us) (PV D c v H) Nev c.s
inductive XP (c:Cfg) (env:Env) (ly:Ly) (f:Fm) (fl:Flo) (f':Fm) (H:St) (fw:Flow) (s:Shared):Prop
 | mk (hd:f'.dep = f.dep) (c':Cfg) (hs:c'.s = s) (hH:c'.H = H) (I:Inv D c') (S:Stp (some env.locals) c c') (F:FR D c' env ly f') (hf:match fl with
  | .nxt=>fw = .next
  | .ret v=>∃ u,fw = .ret u ∧ VR D.θ c' v u)
noncomputable def ExOk (r:Rn):Prop:=∀ (ly:Ly) (env:Env) (f:Fm) (c:Cfg) (A:Around) (n:Nat) (ss:List Stmt) (S':List S) (fl:Flo) (f':Fm) (H:St),cSs g n ly ss = some S' → r.ex S' f c.H = some (fl,f',H) → Inv D c → FR D c env ly f → AOk D A f.dep c env →
 wpAny (model prog w) A (execs ss env) (XP D c env ly f fl f' H) Nev c.s
noncomputable def CmOk (r:Rn):Prop:=∀ (ly:Ly) (env:Env) (f:Fm) (c:Cfg) (A:Around) (n:Nat) (elt target iter:Expr) (ifs:List Expr) (scope:Scope) (pos pos':Pos) (E':E) (v:AV) (H:St) (use:Option (Value → Sem Unit)) (Q:Value → Shared → Prop),
 cE g n ly (.ListComp elt [⟨target,iter,ifs,0⟩] scope pos) = some E' → r.ev E' f c.H = some (v,H) → Inv D c → FR D c env ly f → AOk D A f.dep c env →
 (∀ i0 acc C s,v = .ref i0 → CP D c i0 H acc C s → compPost (model prog w) A Nev use Q acc C (.ok .next) s) →
 wpAny (model prog w) A (comprehension (.ListComp elt [⟨target,iter,ifs,0⟩] scope pos) scope env pos' (newList []) false (eval iter env) use) Q Nev c.s
structure RnOk (r:Rn):Prop where
 cm:CmOk prog w D g r
 ev:EvOk prog w D g r
 ts:TsOk prog w D g r
 ex:ExOk prog w D g r
 ca:CaOk prog w D r
end
section
variable {prog:Program} {w:World} {A:Around} {D:Gd} {c:Cfg} {cx:Cx} {g:G} {r:Rn}
theorem C7s {b:Bool} {x:Unit} (h:gd b = some x):b = true:=by
 cases b with
 | true=>rfl
 | false=>exact noP h
theorem B9k {o:Expr} (h:C0r o = true) (x:Str) (env:Env) (t:Sem Value):attributeBase o x env t = t:=by
 k_extra "o" <;> first | rfl | exact absurd h Bool.false_ne_true
theorem B3f {op:CmpOp} {e:Expr} (h:B0z e = true):behindInMarks op e = false:=by
 k_extra "e" <;> first | rfl | exact absurd h Bool.false_ne_true
theorem B1j:∀ {as:List Expr} (env:Env),as.all B0z = true → starEach as env = as.map fun e=>(false,eval e env)
 | [],J,Y=>rfl
 | e :: as,env,h=>by
  rw [List.all_cons,Bool.and_eq_true] at h
  have ih:=B1j (as:=as) env h.2
  k_extra "e" <;> first | (simp only [List.map_cons,← ih]; rfl) | (cases h.1)
theorem B1r (pos:Pos) (env:Env) (as:List Expr):backTo pos (as.map fun e=>(false,eval e env)) = as.map fun e=>(false,eval e env):=by
 unfold backTo
 (refine eqQ List.map_map ?_)
 rfl
theorem B2d {d:Nat} {env:Env} (h:AOk D A d c env):A.units + 74 < cLine:=D6d h
inductive PVs (D:Gd) (c:Cfg) (vs:List AV) (H:St) (us:List Value) (s:Shared):Prop
 | mk (c':Cfg) (hs:c'.s = s) (hH:c'.H = H) (I:Inv D c') (S:Stp none c c') (r:VRs D.θ c' vs us)
theorem C8a (hr:RnOk prog w D g r) {ly:Ly} {env:Env} {f:Fm} {n:Nat}:∀ {as:List Expr} {Es:List E} {c:Cfg} {vs:List AV} {H:St},cL (cE g n ly) as = some Es → evs r f Es c.H = some (vs,H) → Inv D c → FR D c env ly f → AOk D A f.dep c env →
  wpAny (model prog w) A (spliced (as.map fun e=>(false,eval e env))) (PVs D c vs H) Nev c.s
 | [],Es,c,vs,H,hc,h,I,F,K=>by
  k_extra "hc"; refine B0j h ?_
  exact Calls.spliced_nil ⟨c,rfl,rfl,I,Stp.refl _ _,.nil⟩
 | e :: as,Es,c,vs,H,hc,h,I,F,K=>by
  dsimp only [cL] at hc; simp only [Option.bind_eq_bind,Option.bind_eq_some_iff,Option.some.injEq] at hc
  obtain ⟨E',hE,Es',hEs,rfl⟩:=hc
  refine B2n h fun v H1 h1 h=>?_
  refine B2n h fun vs' H2 h2 h=>?_
  ·refine B0j h ?_
   (refine eqQ List.map_cons ?_)
   refine Calls.spliced_cons (wpAny_mono (hr.ev ly env f c A n e E' v H1 hE h1 I F K) (fun u s1 hu=>?_) Mine.idE)
   ((clear h1; obtain ⟨c1,e98,rfl,I1,S1,r1⟩:=hu); refine eqR e98 ?_)
   refine wpAny_mono (C8a hr hEs h2 I1 (F.mono S1) (K.step S1 (.inl rfl))) (fun us s2 hus=>?_) Mine.idE
   (obtain ⟨c2,rfl,e98,I2,S2,r2⟩:=hus; refine eqR e98 ?_)
   exact ⟨c2,rfl,rfl,I2,S1.trans S2 I1 (fun _ q=>by k_extra "q"),.cons (r1.mono S2) r2⟩
theorem D9u (hr:RnOk prog w D g r) {ly:Ly} {env:Env} {f:Fm} {n:Nat} {o:Option Expr} {O:Option E} {v:Option AV} {H:St} (hc:cO (cE g n ly) o = some O) (h:evo r f O c.H = some (v,H)) (I:Inv D c) (F:FR D c env ly f) (K:AOk D A f.dep c env) :
  wpAny (model prog w) A (evalPart o env) (fun u s=>∃ c':Cfg,c'.s = s ∧ c'.H = H ∧ Inv D c' ∧ Stp none c c' ∧ VRo D.θ c' v u) Nev c.s:=by
 cases o with
 | none =>
  k_extra "hc"; refine B0j h ?_
  exact wpAny_pure ⟨c,rfl,rfl,I,Stp.refl _ _,rfl⟩
 | some e =>
  simp only [cO,Option.bind_eq_bind,Option.bind_eq_some_iff,Option.some.injEq] at hc
  obtain ⟨E',hE,rfl⟩:=hc
  refine B2n h fun v' H1 h1 h=>?_
  refine B0j h ?_
  exact wpAny_mono (hr.ev ly env f c A n e E' _ _ hE h1 I F K) (fun Z Z ⟨c1,a,b,I1,S1,r1⟩=>⟨c1,a,b,I1,S1,r1⟩) Mine.idE
theorem VRo.mono {θ:Nat → Int} {X:Option Addr} {c c':Cfg} (S:Stp X c c') {o:Option AV} {u:Value} (h:VRo θ c o u):VRo θ c' o u:=by
 cases o with
 | none=>exact h
 | some v=>exact VR.mono S h
theorem C8y (hr:RnOk prog w D g r) {ly:Ly} {env:Env} {f:Fm} {n:Nat}:∀ {as:List Expr} {Es:List E} {c:Cfg} {b:Bool} {H:St},cL (cE g n ly) as = some Es → F1y r f Es c.H = some (b,H) → Inv D c → FR D c env ly f → AOk D A f.dep c env →
  wpAny (model prog w) A (allTrue .And as env) (PB D c b H) Nev c.s
 | [],Es,c,b,H,hc,h,I,F,K=>by
  k_extra "hc"; refine B0j h ?_
  exact wpAny_allTrue_And_nil ⟨rfl,PC.same I⟩
 | e :: as,Es,c,b,H,hc,h,I,F,K=>by
  k_extra "fG"; dsimp only [cL] at hc; simp only [Option.bind_eq_bind,Option.bind_eq_some_iff,Option.some.injEq] at hc
  obtain ⟨E',hE,Es',hEs,rfl⟩:=hc
  refine wpAny_allTrue_And_cons ?_
  refine tsP h (fun H1 h1 h=>?_) fun H1 h1 h=>?_
  ·refine wpAny_mono (hr.ts ly env f c A n e E' _ H1 hE h1 I F K) (fun q s1 hu=>?_) Mine.idE
   ((clear h1; obtain ⟨rfl,c1,e98,rfl,I1,S1⟩:=hu); refine eqR e98 ?_)
   (refine eqQ (if_pos rfl) ?_)
   exact wpAny_mono (C8y hr hEs h I1 (F.mono S1) (K.step S1 (.inl rfl))) (fun q s2 ⟨e,p⟩=>⟨e,p.after S1 I1⟩) Mine.idE
  ·refine B0j h ?_
   refine wpAny_mono (hr.ts ly env f c A n e E' _ _ hE h1 I F K) (fun q s1 hu=>?_) Mine.idE
   obtain ⟨rfl,p⟩:=hu
   (refine eqQ (if_neg Bool.false_ne_true) ?_)
   exact ⟨rfl,p⟩
theorem C8x (hr:RnOk prog w D g r) {ly:Ly} {env:Env} {f:Fm} {n:Nat}:∀ {as:List Expr} {Es:List E} {c:Cfg} {b:Bool} {H:St},cL (cE g n ly) as = some Es → anyT r f Es c.H = some (b,H) → Inv D c → FR D c env ly f → AOk D A f.dep c env →
  wpAny (model prog w) A (allTrue .Or as env) (PB D c b H) Nev c.s
 | [],Es,c,b,H,hc,h,I,F,K=>by
  k_extra "hc"; refine B0j h ?_
  exact wpAny_allTrue_Or_nil ⟨rfl,PC.same I⟩
 | e :: as,Es,c,b,H,hc,h,I,F,K=>by
  k_extra "fG"; dsimp only [cL] at hc; simp only [Option.bind_eq_bind,Option.bind_eq_some_iff,Option.some.injEq] at hc
  obtain ⟨E',hE,Es',hEs,rfl⟩:=hc
  refine wpAny_allTrue_Or_cons ?_
  refine tsP h (fun H1 h1 h=>?_) fun H1 h1 h=>?_
  ·refine B0j h ?_
   refine wpAny_mono (hr.ts ly env f c A n e E' _ _ hE h1 I F K) (fun q s1 hu=>?_) Mine.idE
   obtain ⟨rfl,p⟩:=hu
   (refine eqQ (if_pos rfl) ?_)
   exact ⟨rfl,p⟩
  ·refine wpAny_mono (hr.ts ly env f c A n e E' _ H1 hE h1 I F K) (fun q s1 hu=>?_) Mine.idE
   ((clear h1; obtain ⟨rfl,c1,e98,rfl,I1,S1⟩:=hu); refine eqR e98 ?_)
   (refine eqQ (if_neg Bool.false_ne_true) ?_)
   exact wpAny_mono (C8x hr hEs h I1 (F.mono S1) (K.step S1 (.inl rfl))) (fun q s2 ⟨e,p⟩=>⟨e,p.after S1 I1⟩) Mine.idE
end
end Ab
end
section
open PySem PySem.W PyProof.Rows PySem.Calls PySem.SeqAt
namespace Ab
structure Ax (D:Gd) (A:Around) (env:Env) (ly:Ly) (f:Fm) (c0 c:Cfg):Prop where
 I:Inv D c
 S:Stp none c0 c
 F:FR D c env ly f
 K:AOk D A f.dep c env
theorem iteP {α:Type} {b:Bool} {a y:α} {P:Prop} (h:(if b = true then some a else Option.none) = some y) (q:b = true → a = y → P):P:=by
 cases b with
 | false=>k_extra "h"
 | true=>exact q rfl (oYY h)
theorem C4r {e:E} {v:AV} (h:D5f e = some v):e = .lit v:=by
 k_extra "e" <;> first | (k_extra "h"; rfl) | k_extra "h"
section
variable {prog:Program} {w:World} {A:Around} {D:Gd} {c c0:Cfg} {cx:Cx} {g:G} {r:Rn} {ly:Ly} {env:Env} {f:Fm} {n:Nat} {γ:Type} {y:γ} {E:Value → Shared → Prop}
theorem Ax.start (I:Inv D c) (F:FR D c env ly f) (K:AOk D A f.dep c env):Ax D A env ly f c c:=⟨I,Stp.refl _ _,F,K⟩
theorem Ax.up {c1:Cfg} (X:Ax D A env ly f c0 c) (I1:Inv D c1) (S1:Stp none c c1):Ax D A env ly f c0 c1 :=
 ⟨I1,X.S.trans S1 X.I (fun Z q=>by k_extra "q"),X.F.mono S1,X.K.step S1 (.inl rfl)⟩
theorem Ax.pv (X:Ax D A env ly f c0 c) {v:AV} {H:St} {u:Value} {s:Shared} (h:PV D c v H u s):PV D c0 v H u s:=h.after X.S X.I
theorem B1p (hr:RnOk prog w D g r) {e:Expr} {E':Ab.E} (hE:cE g n ly e = some E') {k:AV → St → Option γ} {Q:Value → Shared → Prop}
  (h:@Option.rec (AV × St) (fun _=>Option γ) Option.none (@Prod.rec AV St (fun _=>Option γ) k) (r.ev E' f c.H) = some y) (X:Ax D A env ly f c0 c)
  (q:∀ c1 v u,Ax D A env ly f c0 c1 → VR D.θ c1 v u → Stp none c c1 → k v c1.H = some y → Q u c1.s):wpAny (model prog w) A (eval e env) Q E c.s:=by
 refine B2n h fun v H1 h1 h=>?_
 exact wpAny_mono (hr.ev ly env f c A n e E' _ _ hE h1 X.I X.F X.K) (fun u s1 ⟨c1,b,d,I1,S1,r1⟩=>by subst b d; exact q c1 v u (X.up I1 S1) r1 S1 h) fun Z Z z=>z.elim
theorem D1t (hr:RnOk prog w D g r) {e:Expr} {E':Ab.E} (hc:cE g n ly e = some E') {k1 k0:St → Option γ} {Q:Bool → Shared → Prop}
  (h:@Option.rec (Bool × St) (fun _=>Option γ) Option.none (@Prod.rec Bool St (fun _=>Option γ) fun b H=>@Bool.rec (fun _=>Option γ) (k0 H) (k1 H) b) (r.ts E' f c.H) = some y) (X:Ax D A env ly f c0 c)
  (q1:∀ c1,Ax D A env ly f c0 c1 → k1 c1.H = some y → Q true c1.s) (q0:∀ c1,Ax D A env ly f c0 c1 → k0 c1.H = some y → Q false c1.s) :
  wpAny (model prog w) A (isTrue e env (eval e env)) Q E c.s:=by
 refine tsP h (fun H1 h1 h=>?_) fun H1 h1 h=>?_
 ·exact wpAny_mono (hr.ts ly env f c A n e E' _ _ hc h1 X.I X.F X.K) (fun q s1 ⟨a,c1,b,d,I1,S1⟩=>by subst a b d; exact q1 c1 (X.up I1 S1) h) fun Z Z z=>z.elim
 ·exact wpAny_mono (hr.ts ly env f c A n e E' _ _ hc h1 X.I X.F X.K) (fun q s1 ⟨a,c1,b,d,I1,S1⟩=>by subst a b d; exact q0 c1 (X.up I1 S1) h) fun Z Z z=>z.elim
end
end Ab
end
section
set_option backward.match.sparseCases false
open PySem PySem.W PyProof.Rows PySem.Calls PySem.SeqAt
namespace Ab
section
variable {prog:Program} {w:World} {A:Around} {D:Gd} {c:Cfg} {cx:Cx} {g:G} {r:Rn}
theorem B5x:∀ {ops:List CmpOp} {es:List Expr},es.all B0z = true → lastMarks ops es = false
 | [],es,h=>by cases es <;> rfl
 | [o],[],h=>rfl
 | [o],[e],h=>by
  rw [List.all_cons,Bool.and_eq_true] at h
  exact B3f h.1
 | [o],e :: e2 :: es,h=>by unfold lastMarks; unfold lastMarks; rfl
 | o :: o2 :: os,[],h=>rfl
 | o :: o2 :: os,e :: es,h=>by
  rw [List.all_cons,Bool.and_eq_true] at h
  show lastMarks (o2 :: os) es = false
  exact B5x h.2
theorem C0b {f:Expr → Option E}:∀ {ops:List CmpOp} {es:List Expr} {l:List (COp × E)},F1v f ops es = some l → es.all B0z = true
 | [],[],l,h=>rfl
 | [],e :: es,l,h=>(by first | exact noP h | exact fT h | exact nomatch h)
 | o :: ops,[],l,h=>(by first | exact noP h | exact fT h | exact nomatch h)
 | o :: ops,e :: es,l,h=>by
  refine gdP h fun hp h=>B0a h fun o' ho h=>B0a h fun e' he h=>B0a h fun l' hl h=>?_
  (refine eqQ List.all_cons ?_; refine eqQ hp ?_; refine eqQ (C0b hl) ?_); rfl
theorem D1x {vs keep:List Value} {Q:Unit → Shared → Prop} {s:Shared} (hq:Q () s):wpAny (model prog w) A (release vs keep) Q Nev s:=fun Γ p hΓ=>by simp only [Sem.wp_release]; exact hq
theorem D3d (hr:RnOk prog w D g r) (C:CxOk D cx) {ly:Ly} {env:Env} {f:Fm} {n:Nat} {pos:Pos}:∀ {ops:List CmpOp} {es:List Expr} {l:List (COp × E)} {c:Cfg} {a:AV} {u:Value} {b:Bool} {H:St},ops ≠ [] → F1v (cE g n ly) ops es = some l → chn cx r f a l c.H = some (b,H) →
  Inv D c → FR D c env ly f → AOk D A f.dep c env → VR D.θ c a u → wpAny (model prog w) A (testChain pos u ops (evalEach es env)) (PB D c b H) Nev c.s
 | [],es,l,c,a,u,b,H,h0,hc,h,I,F,K,ra=>absurd rfl h0
 | o :: ops,[],l,c,a,u,b,H,h0,hc,h,I,F,K,ra=>(by first | exact noP hc | exact fT hc | exact nomatch hc)
 | o :: ops,e :: es,l,c,a,u,b,H,h0,hc,h,I,F,K,ra=>by
  k_extra "fG"; refine gdP hc fun hp hc=>B0a hc fun o' ho hc=>B0a hc fun E' hE hc=>B0a hc fun l' hl hc=>B0m hc fun z=>?_
  (clear hc; (clear hc; (clear hc; (clear hc; subst z))))
  refine B2n h fun v H1 h1 h=>?_
  have hev:=hr.ev ly env f c A n e E' v H1 hE h1 I F K
  cases ops with
  | nil =>
   cases es with
   | cons=>(first | exact noP hl | exact fT hl | exact nomatch hl)
   | nil =>
    have z:=oYY hl
    (clear h1; (clear hl; subst z))
    show wpAny _ _ (do
     let rv ← holding [u] (eval e env)
     standAt pos
     let c ← operate [u,rv] (compareOp o u rv)
     holding [c] (PySem.truthy c)) _ _ _
    refine wpAny_bind (wpAny_holding (wpAny_mono hev (fun u1 s1 hu=>?_) Mine.idE))
    (clear hev; (obtain ⟨c1,e98,rfl,I1,S1,r1⟩:=hu); refine eqR e98 ?_)
    k_extra "fG"; refine wpAny_bind (wpAny_standAt (wpAny_bind (wpAny_operating ?_)))
    refine onP h fun y q h=>?_
    cases y with
    | true =>
     refine B0j h ?_
     exact B6g I1 C (B2d K) ho (ra.mono S1) r1 q (wpAny_holding (wpAny_truthy_bool ⟨rfl,c1,rfl,rfl,I1,S1⟩))
    | false =>
     refine B0j h ?_
     exact B6g I1 C (B2d K) ho (ra.mono S1) r1 q (wpAny_holding (wpAny_truthy_bool ⟨rfl,c1,rfl,rfl,I1,S1⟩))
  | cons o2 ops =>
   cases es with
   | nil=>(first | exact noP hl | exact fT hl | exact nomatch hl)
   | cons e2 es =>
    k_extra "fG"; show wpAny _ _ (do
     let rv ← holding [u] (eval e env)
     standAt pos
     let c ← holding [u,rv] (compareOp o u rv)
     release [u,rv] [c]
     if ← holding [c,rv] (PySem.truthy c) then testChain pos rv (o2 :: ops) (evalEach (e2 :: es) env) else pure false) _ _ _
    refine wpAny_bind (wpAny_holding (wpAny_mono hev (fun u1 s1 hu=>?_) Mine.idE))
    (clear hev; (obtain ⟨c1,e98,rfl,I1,S1,r1⟩:=hu); refine eqR e98 ?_)
    refine wpAny_bind (wpAny_standAt (wpAny_bind (wpAny_holding ?_)))
    refine onP h fun y q h=>?_
    cases y with
    | true =>
     refine B6g I1 C (B2d K) ho (ra.mono S1) r1 q (wpAny_bind (D1x (wpAny_bind (wpAny_holding (wpAny_truthy_bool ?_)))))
     (refine eqQ (if_pos rfl) ?_)
     exact wpAny_mono (D3d hr C (List.cons_ne_nil _ _) hl h I1 (F.mono S1) (K.step S1 (.inl rfl)) r1) (fun q s2 ⟨e,p⟩=>⟨e,p.after S1 I1⟩) Mine.idE
    | false =>
     refine B0j h ?_
     refine B6g I1 C (B2d K) ho (ra.mono S1) r1 q (wpAny_bind (D1x (wpAny_bind (wpAny_holding (wpAny_truthy_bool ?_)))))
     (refine eqQ (if_neg Bool.false_ne_true) ?_)
     exact wpAny_pure ⟨rfl,c1,rfl,rfl,I1,S1⟩
noncomputable def F1e:E → Bool
 | .cmp J Y V=>true
 | .and J=>true
 | .or J=>true
 | .chn J Y V O=>true
 | .esc J Y V O=>true
 | _=>false
theorem D3r {e:E} (h:F1e e = false) (f:Fm) (H:St):tsC cx r e f H = tsV r e f H:=by
 k_extra "e" <;> first | rfl | (first | exact noP h | exact fT h | exact nomatch h)
noncomputable def C0m:Expr → Bool
 | .IfExp J Y V O=>true
 | .Compare J Y V O=>true
 | .BoolOp J Y V=>true
 | .UnaryOp J Y V=>true
 | _=>false
theorem C8r {ly:Ly} {x:Str} {e:E} (h:cName g ly x = some e):F1e e = false:=by
 exact D3f h (fun Z Z h=>B0o (Option.map_eq_some_iff.mp h) fun Z Z e=>e ▸ rfl) (fun Z Z h=>B0o (Option.map_eq_some_iff.mp h) fun Z Z e=>e ▸ rfl)
  (fun Z Z Z h=>B0o (Option.map_eq_some_iff.mp h) fun Z Z e=>e ▸ rfl) fun Z Z h=>B0o (Option.map_eq_some_iff.mp h) fun Z Z e=>e ▸ rfl
theorem B8c {e : Expr} {env : Env} (h : C0m e = false) (whole : Sem Value) : isTrue e env whole = (do let v ← whole; standAt e.pos; holding [v] (PySem.truthy v)) := by
 k_extra "e" <;> first | rfl | exact absurd h (fun e=>(by first | exact noP e | exact fT e | exact nomatch e))
theorem F0m {f : Expr → Option E} {a i : Expr} {E' : E} {P : Prop} (h : F1u f a i = some E') (q1 : ∀ l u s p, i = .Slice l u s p → (do some (.slc (← f a) (← cO f l) (← cO f u) (← cO f s)) : Option E) = some E' → P) (q2 : isSl i = false → (do some (.sub (← f a) (← f i)) : Option E) = some E' → P) : P := by
 cases i with
 | Slice l u s p=>exact q1 l u s p rfl h
 | _=>exact q2 rfl h
theorem D3g {ly:Ly} {f:Expr → Option E} {as:List Expr} {kw:List Keyword} {p:Pos} {fn:Expr} {E':E} {P:Prop} (h:D1g g ly f as kw p fn = some E')
  (q1:∀ x z,kw = [] → fn = .Name x z → as.all B0z = true → as.length ≤ 20 → ∀ e,cName g ly x = some e → ∀ v,D5f e = some v → ∀ l,cL f as = some l → .call v l = E' → P)
  (q2:∀ o x z,kw = [] → fn = .Attribute o x z → C0r o = true → (z.endLine == p.line) = true → as.all B0z = true → as.length ≤ 20 → ∀ e,f o = some e → ∀ m,mtd x = some m → ∀ l,cL f as = some l → .meth e m l = E' → P):P:=by
 cases fn with
 | Name x z=>exact D6r h fun k c e he v hv l hl h=>q1 x z (List.isEmpty_iff.mp k) rfl (Bool.and_eq_true_iff.mp c).1 (nYY (Bool.and_eq_true_iff.mp c).2) e he v hv l hl (oYY h)
 | Attribute o x z=>exact gdP h fun k h=>gdP h fun n h=>gdP h fun y h=>gdP h fun c h=>B5d h fun e he m hm l hl h=>q2 o x z (List.isEmpty_iff.mp k) rfl n y (Bool.and_eq_true_iff.mp c).1 (nYY (Bool.and_eq_true_iff.mp c).2) e he m hm l hl (oYY h)
 | _=>exact noP h
theorem D8l {ly:Ly} {n:Nat} {e:Expr} {E':E} (hc:cE g (n + 1) ly e = some E') (hs:C0m e = false):F1e E' = false:=by
 cases e with
 | Constant k kd p =>
  cases k with
  | str s=>exact iteP (show (if _ = true then some _ else Option.none) = some E' from hc) fun Z e=>e ▸ rfl
  | int i=>refine B0g hc ?_; rfl
  | none=>refine B0g hc ?_; rfl
  | bool b=>refine B0g hc ?_; rfl
  | _=>k_extra "hc"
 | Name x p=>exact C8r hc
 | BinOp a o b p=>exact B5d hc fun Z Z Z Z Z Z hc=>oYY hc ▸ rfl
 | Tuple as k p=>exact C4e hc fun Z Z Z Z hc=>oYY hc ▸ rfl
 | List as p=>exact C4e hc fun Z Z Z Z hc=>oYY hc ▸ rfl
 | Subscript a i p =>
  have hc:F1u (cE g n ly) a i = some E':=hc
  exact F0m hc (fun Z Z Z Z Z hc=>C9e hc fun Z Z Z Z Z Z Z Z hc=>oYY hc ▸ rfl) fun Z hc=>C4e hc fun Z Z Z Z hc=>oYY hc ▸ rfl
 | Call fn as kw p =>
  have hc:D1g g ly (cE g n ly) as kw p fn = some E':=hc
  exact D3g hc (fun Z Z Z Z Z Z Z Z Z Z Z Z hc=>hc ▸ rfl) fun Z Z Z Z Z Z Z Z Z Z Z Z Z Z Z hc=>hc ▸ rfl
 | Attribute o y p =>
  exact B0a (show cAtt g ly y o = some E' from hc) fun Z Z hc=>C4e hc fun Z Z Z Z hc=>oYY hc ▸ rfl
 | ListComp elt gs sc p =>
  exact D6t hc fun Z Z Z Z Z Z Z Z Z Z hc=>C9e hc fun Z Z Z Z Z Z Z Z hc=>oYY hc ▸ rfl
 | UnaryOp=>(first | exact noP hs | exact fT hs | exact absurd hs (fun e=>nomatch e))
 | BoolOp=>(first | exact noP hs | exact fT hs | exact absurd hs (fun e=>nomatch e))
 | IfExp=>(first | exact noP hs | exact fT hs | exact absurd hs (fun e=>nomatch e))
 | Compare=>(first | exact noP hs | exact fT hs | exact absurd hs (fun e=>nomatch e))
 | _=>k_extra "hc"
theorem C2d (hr : RnOk prog w D g r) {ly : Ly} {env : Env} {f : Fm} {n : Nat} {e : Expr} {E' : E} {b : Bool} {H : St} (hc : cE g n ly e = some E') (ht : F1e E' = false) (hp : isTrue e env (eval e env) = (do let v ← eval e env; standAt e.pos; holding [v] (PySem.truthy v)))
  (h:tsC cx r E' f c.H = some (b,H)) (X:Ax D A env ly f c c):wpAny (model prog w) A (isTrue e env (eval e env)) (PB D c b H) Nev c.s:=by
 rw [D3r ht] at h
 refine isTrue_plain (B1p hr hc h X fun c1 v u X1 r1 S1 h=>?_) hp
 ((have h2:=(B5e h).1; have e98:=(B5e h).2); refine eqR e98 ?_)
 exact wpAny_mono (C5j X1.I h2 r1) (fun q s2 p=>⟨p.1,p.2.after X1.S X1.I⟩) Mine.idE
theorem D3q (hr:RnOk prog w D g r) (C:CxOk D cx):TsOk prog w D g ⟨evC cx r,tsC cx r,exC cx r,caC cx r⟩:=by
 intro ly env f c A n e E' b H hc h I F K
 have h:tsC cx r E' f c.H = some (b,H):=h
 have X:=Ax.start I F K
 cases n with
 | zero=>k_extra "hc"
 | succ n =>
  cases hs:C0m e with
  | false=>exact C2d hr hc (D8l hc hs) (B8c hs _) h X
  | true =>
   cases e with
   | UnaryOp op a p =>
    k_extra "fG"; refine B0a hc fun a' ha hu=>?_
    cases op with
    | USub=>k_extra "hu"; exact C2d hr hc rfl rfl h X
    | _=>exact noP hu
   | BoolOp op as p =>
    k_extra "fG"; refine B0a hc fun a' ha hu=>?_
    cases op with
    | And=>k_extra "hu"; exact wpAny_isTrue_BoolOp (C8y hr ha h I F K)
    | Or=>k_extra "hu"; exact wpAny_isTrue_BoolOp (C8x hr ha h I F K)
   | IfExp a b d p =>
    k_extra "fG"; refine B0a (show cIf g ly (cE g n ly) a b d = some E' from hc) fun x Z hc=>B0a hc fun y Z hc=>B0a hc fun z Z hc=>B0a hc fun i q hc=>?_
    k_extra "fG"; have hc:=oYY hc
    (clear h; subst hc)
    exact noP h
   | Compare a os bs p =>
    refine B1i (show cCmp (cE g n ly) a os bs = some E' from hc) (fun o eo hc=>C9d hc fun b' eb hg o' ho a1 ha b1 hb hc=>B0m hc fun z=>?_) fun e0 hc=>B0a hc fun l hl hc=>B0a hc fun a1 ha hc=>?_
    rotate_left
    ·cases os with
     | nil =>
      k_extra "fG"; cases bs with
      | nil=>have z:=oYY hl; (clear hl; subst z); exact noP hc
      | cons=>exact noP hl
     | cons o os =>
      cases os with
      | nil=>(first | exact noP (show some o = Option.none from e0) | exact fT (show some o = Option.none from e0) | exact nomatch (show some o = Option.none from e0))
      | cons o2 os =>
       k_extra "fG"; cases l with
       | nil=>exact noP hc
       | cons p1 l =>
        have z:=oYY hc
        (clear h; (clear hc; subst z))
        show wpAny _ _ (do testChain p (← eval a env) (o :: o2 :: os) (markedEach (o :: o2 :: os) bs (evalEach bs env))) _ _ _
        refine wpAny_bind (B1p hr ha h X fun c1 v1 u1 X1 r1 S1 h=>?_)
        (refine eqQ (markedEach_of_false _ _ _ (B5x (C0b hl))) ?_)
        exact wpAny_mono (D3d (pos:=p) hr C (List.cons_ne_nil _ _) hl h X1.I X1.F X1.K r1) (fun q s2 p=>⟨p.1,p.2.after X1.S X1.I⟩) Mine.idE
    (clear h; (clear hc; (clear hc; (clear hc; subst z))))
    (refine eqQ (B0c eo) ?_; refine eqQ (B0c eb) ?_)
    exact wpAny_isTrue_Compare1 (B1p hr ha h X fun c1 v1 u1 X1 r1 S1 h=>B1p hr hb h X1 fun c2 v2 u2 X2 r2 S2 h=>by
     ((have h3:=(B5e h).1; have e98:=(B5e h).2); refine eqR e98 ?_)
     exact B6g X2.I C (B2d K) ho (r1.mono S2) r2 h3 (wpAny_truthy_bool ⟨rfl,c2,rfl,rfl,X2.I,X2.S⟩)) (B3f hg)
   | _=>exact absurd hs Bool.false_ne_true
end
end Ab
end
section
open PySem PySem.W PyProof.Rows PySem.Calls PySem.SeqAt
namespace Ab
section
variable {prog:Program} {w:World} {A:Around} {D:Gd} {c:Cfg} {cx:Cx} {g:G} {r:Rn}
inductive PF (D:Gd) (c:Cfg) (env:Env) (ly:Ly) (f:Fm) (H:St) (s:Shared):Prop
 | mk (c':Cfg) (hs:c'.s = s) (hH:c'.H = H) (I:Inv D c') (S:Stp (some env.locals) c c') (F:FR D c' env ly f)
theorem FR.nsx {env:Env} {ly:Ly} {f:Fm} (F:FR D c env ly f):∀ L,some env.locals = some L → ∃ m,c.s.heap.Ns L m:=fun L h=>by
 refine B0g h ?_
 (refine B0o F.ns fun m hm Z=>?_)
 exact ⟨m,hm⟩
theorem FR.weak {env:Env} {ly:Ly} {f:Fm} {c':Cfg} (F:FR D c env ly f) (S:Stp none c c'):Stp (some env.locals) c c':=S.weak fun L h=>by refine B0g h ?_; exact F.unt
theorem PF.after {env:Env} {ly ly':Ly} {f f' f0:Fm} {c₁:Cfg} {H:St} {s:Shared} (S:Stp (some env.locals) c c₁) (I:Inv D c₁) (F:FR D c env ly' f0) (h:PF D c₁ env ly f' H s):PF D c env ly f' H s :=
 let ⟨c',a,b,i,st,fr⟩:=h
 ⟨c',a,b,i,S.trans st I F.nsx,fr⟩
theorem C6z {α:Type}:∀ {l:List α} {i:Nat} {a z:α},nth? (D2i l i a) i = some z → z = a
 | [],i,a,z,h=>noP h
 | b :: l,0,a,z,h=>(oYY h).symm
 | b :: l,i + 1,a,z,h=>C6z (l:=l) (i:=i) h
theorem C6y {α:Type}:∀ {l:List α} {i j:Nat} {a:α},j ≠ i → nth? (D2i l i a) j = nth? l j
 | [],i,j,a,h=>rfl
 | b :: l,0,0,a,h=>absurd rfl h
 | b :: l,0,j + 1,a,h=>rfl
 | b :: l,i + 1,0,a,h=>rfl
 | b :: l,i + 1,j + 1,a,h=>C6y (l:=l) fun e=>h (congrArg Nat.succ e)
theorem C1a {env:Env} (h:env.scope.kind = .function):(env.scope.kind == .class || (env.scope.kind == .module && env.locals != env.globals)) = false:=by (refine eqQ h ?_); rfl
theorem C8o {o:AO} {v:Option AV} (h:celV o = some v):o = .cell v:=by k_extra "o" <;> first | exact congrArg AO.cell (oYY h) | exact noP h
theorem B3p (I:Inv D c) {env:Env} {ly:Ly} {f f':Fm} (F:FR D c env ly f) {x:Str} {sl:Sl} {v:AV} {u:Value} {H:St} (hc:cSlot ly x = some sl) (h:C0o sl v f c.H = some (f',H)) (rv:VR D.θ c v u) :
  f'.dep = f.dep ∧ wpAny (model prog w) A (storeName env x u) (fun _ s=>PF D c env ly f' H s) Nev c.s:=by
 refine D3e hc (fun hk hc=>?_) fun hk hc=>?_
 ·(refine B0o (Option.map_eq_some_iff.mp hc) fun i hi e92=>?_; (clear hc; subst e92))
  refine B0j h ?_
  refine ⟨rfl,?_⟩
  (refine B0o F.ns fun m hm hl=>?_)
  refine wpAny_storeName_local (by rw [B1c F]; exact hk) hm (fun h' hn hs=>?_) (C1a F.kind)
  have kp:∀ a o,a ≠ env.locals → c.s.heap.get? a = some o → h'.get? a = some o:=fun a o ne e=>(hs.2 a ne).trans e
  have hL:D.b0.get? env.locals = Option.none:=by
   cases z:D.b0.get? env.locals with
   | none=>rfl
   | some o=>exact absurd (Heap.lt_size z) (Nat.not_lt.mpr F.above)
  refine ⟨c.up { c.s with heap:=h',toks:=c.s.toks + 1 },rfl,rfl,I.up (fun a o t e=>kp a o (fun q=>F.unt (q ▸ t)) e) (fun a o e=>kp a o (fun q=>by rw [q,hL] at e; k_extra "e") (I.stat a o e)) I.gens,?_,?_⟩
  ·exact ⟨Nat.le_refl _,fun _ _=>rfl,fun _ _=>.of rfl,fun i l u=>absurd u (Nat.not_lt.mpr l),fun a o e t ne=>.inl (kp a o (fun q=>ne (by (exact eqQ q rfl))) e),fun L hL' h0=>by refine B0g hL' ?_; exact ⟨_,hn⟩,rfl,rfl,rfl⟩
  ·refine ⟨F.kind,F.names,F.glb,F.blt,⟨_,hn,fun j y z hj hz=>?_⟩,F.unt,F.cel,F.above⟩
   have hz':nth? (D2i f.loc i (some v)) j = some (some z):=hz
   by_cases e:j = i
   ·have ez:=oYY (C6z (e ▸ hz'))
    subst ez
    have:y = x:=C3c (by (refine eqR e ?_); exact hj) hi
    refine eqR this ?_
    exact ⟨u,if_pos rfl,rv⟩
   ·rw [C6y e] at hz'
    have:y ≠ x:=fun q=>e (by subst q; rw [hj] at hi; exact oYY hi)
    (refine B0o (hl j y z hj hz') fun u' h1 h2=>?_)
    exact ⟨u',by show (if y = x then some u else m y) = _; (refine eqQ (if_neg this) ?_); exact h1,h2⟩
 ·(refine B0o (Option.map_eq_some_iff.mp hc) fun i hi e92=>?_; (clear hc; subst e92))
  refine onP h fun id hid h=>onP h fun v0 q h=>?_
  ·replace q:=C8o q
   refine B0j h ?_
   refine ⟨rfl,?_⟩
   k_extra "fG"; obtain ⟨hn,hl⟩:=F.cel x i id hi hid
   (refine D3n (B8p I hn q) fun o u0 e d hr ho=>?_)
   refine wpAny_storeName_cell F.kind (by rw [B1c F]; exact hk) hl ⟨o,ho,d⟩ fun h' ⟨o',ho',d'⟩ hs=>?_
   obtain ⟨I',S'⟩:=D2b (s':={ c.s with heap:=h' }) I hn (e:=[(c.mu id,o')]) (o:=.cell (some v)) (by (exact eqQ e rfl)) (fun p hp=>by (refine eqQ (List.mem_singleton.mp hp) ?_); exact ho')
    (fun b x hb e'=>hs.extBut b x (fun q=>hb (by (refine eqQ e ?_; refine eqQ q ?_); exact .head _)) e') ⟨o',some u,rfl,d',fun z hz=>by refine B0g hz ?_; exact ⟨u,rfl,rv⟩⟩ I.gens rfl rfl
   exact ⟨_,rfl,rfl,I',F.weak S',F.mono S'⟩
noncomputable def ItP (c:Cfg):It → Nat → Addr → Heap → Prop
 | .lst id,i,a,h=>id < c.H.n ∧ h.IsListIter a (c.mu id) i
 | .tup id,i,a,h=>id < c.H.n ∧ h.IsTupleIter a (c.mu id) i
 | .str s,i,a,h=>SOk s ∧ ∃ t,h.IsStrIter a (strIterType ⟨s.toArray⟩) ⟨s.toArray⟩ t i
 | .rng b n,i,a,h=>IsRangeIter h a (b + (i:Nat) * 1) ((n:Int) - (i:Nat)) 1
theorem ItP.at {it:It} {i:Nat} {a:Addr} {h h':Heap} (x:ItP c it i a h) (k:∀ o,h.get? a = some o → h'.get? a = some o):ItP c it i a h':=by
 k_extra "fG"; cases it with
 | lst id=>exact ⟨x.1,x.2.at k⟩
 | tup id=>obtain ⟨h1,o,ho,r⟩:=x; exact ⟨h1,o,k o ho,r⟩
 | str s=>obtain ⟨h1,t,o,ho,r⟩:=x; exact ⟨h1,t,o,k o ho,r⟩
 | rng b n=>exact k _ x
theorem ItP.ext {it:It} {i:Nat} {a:Addr} {h:Heap} {c':Cfg} (x:ItP c it i a h) (S:Ext c c'):ItP c' it i a h:=by
 cases it with
 | lst id=>exact ⟨Nat.lt_of_lt_of_le x.1 S.n,by rw [S.mu _ x.1]; exact x.2⟩
 | tup id=>exact ⟨Nat.lt_of_lt_of_le x.1 S.n,by rw [S.mu _ x.1]; exact x.2⟩
 | str s=>exact x
 | rng b n=>exact x
theorem ItP.fields {it:It} {i:Nat} {a:Addr} {h:Heap} (x:ItP c it i a h):∃ o vs,h.get? a = some o ∧ o.data = .fields vs:=by
 k_extra "fG"; cases it with
 | lst id=>obtain ⟨_,o,ho,_,d⟩:=x; exact ⟨o,_,ho,d⟩
 | tup id=>obtain ⟨_,o,ho,_,d⟩:=x; exact ⟨o,_,ho,d⟩
 | str s=>obtain ⟨_,t,o,ho,_,d⟩:=x; exact ⟨o,_,ho,d⟩
 | rng b n=>exact ⟨_,_,x,rfl⟩
noncomputable def ItR (D:Gd) (c:Cfg) (k:Nat) (it:It) (i:Nat) (p:Addr × Addr) (s:Shared):Prop :=
 (¬ Trk c p.1 ∧ ¬ Trk c p.2 ∧ D.b0.get? p.1 = none ∧ D.b0.get? p.2 = none) ∧ ItP c it i p.2 s.heap ∧ (match k with
  | 1=>p.1 ≠ p.2 ∧ drw it = true ∧ ∃ old,IsEnum s.heap p.1 p.2 i old
  | _=>p.1 = p.2)
theorem k1P {A B P:Prop} {k:Nat} (h:match (generalizing:=false) k with | 1=>A | _=>B) (q1:k = 1 → A → P) (q2:k ≠ 1 → B → P):P:=by
 cases k with
 | zero=>exact q2 Nat.zero_ne_one h
 | succ k =>
  cases k with
  | zero=>exact q1 rfl h
  | succ k=>exact q2 (fun e=>Nat.succ_ne_zero k (Nat.succ.inj e)) h
theorem k1I {A B:Prop} {k:Nat} (q1:k = 1 → A) (q2:k ≠ 1 → B):match (generalizing:=false) k with | 1=>A | _=>B:=by
 cases k with
 | zero=>exact q2 Nat.zero_ne_one
 | succ k =>
  cases k with
  | zero=>exact q1 rfl
  | succ k=>exact q2 (fun e=>Nat.succ_ne_zero k (Nat.succ.inj e))
theorem ItR.fields {k:Nat} {it:It} {i:Nat} {p:Addr × Addr} {s:Shared} (x:ItR D c k it i p s):(∃ o vs,s.heap.get? p.1 = some o ∧ o.data = .fields vs) ∧ ∃ o vs,s.heap.get? p.2 = some o ∧ o.data = .fields vs:=by
 (refine C5f x fun Z h1 h2=>?_)
 refine ⟨k1P h2 (fun e h2=>?_) fun e h2=>?_,h1.fields⟩
 ·obtain ⟨_,_,old,h⟩:=h2
  exact ⟨_,_,h,rfl⟩
 ·(refine eqQ h2 ?_); exact h1.fields
theorem ItR.step {k:Nat} {it:It} {i:Nat} {p:Addr × Addr} {c':Cfg} {L:Addr} (x:ItR D c k it i p c.s) (S:Stp (some L) c c') (hL:∃ m,c.s.heap.Ns L m):ItR D c' k it i p c'.s:=by
 k_extra "fG"; obtain ⟨m,hm⟩:=hL
 have kp:∀ b,¬ Trk c b → (∃ o vs,c.s.heap.get? b = some o ∧ o.data = .fields vs) → ∀ o,c.s.heap.get? b = some o → c'.s.heap.get? b = some o:=by
  intro b hb h972 o e; refine C0i h972 fun o' vs e' d'=>?_
  refine (S.keep b o e hb fun q=>?_).fields e (by replace e':=e ▸ e'; refine eqQ (oYY e') ?_; exact d')
  (clear S; k_extra "q")
  exact Ns.noFields hm e' d'
 obtain ⟨f1,f2⟩:=x.fields
 obtain ⟨⟨h1,h2,h3,h4⟩,h5,h6⟩:=x
 have k1:=kp p.1 h1 f1
 have k2:=kp p.2 h2 f2
 (refine C0i f1 fun o1 Z e1 Z=>?_)
 (refine C0i f2 fun o2 Z e2 Z=>?_)
 refine ⟨⟨S.trk e1 h1,S.trk e2 h2,h3,h4⟩,(h5.at k2).ext S.ext,k1I (fun e=>?_) fun e=>k1P h6 (fun z h=>absurd z e) fun z h=>h⟩
 subst e
 obtain ⟨h7,h8,old,h9⟩:=h6
 exact ⟨h7,h8,old,k1 _ h9⟩
structure StpD (Z:Addr → Prop) (c c':Cfg):Prop where
 n:c.H.n ≤ c'.H.n
 mu:∀ i,i < c.H.n → c'.mu i = c.mu i
 adr:∀ i,i < c.H.n → Adr c.s.heap (c'.ent i) (c.ent i)
 fresh:∀ i,c.H.n ≤ i → i < c'.H.n → ∀ p ∈ c'.ent i,c.s.heap.get? p.1 = none
 keep:∀ a o,c.s.heap.get? a = some o → ¬ Trk c a → ¬ Z a → Kp c.fr c.s.heap c'.s.heap a o
 live:∀ a o,Z a → c.s.heap.get? a = some o → ∃ o',c'.s.heap.get? a = some o'
 os:c'.s.os = c.s.os
 drawn:c'.s.drawn = c.s.drawn
 fr:c'.fr = c.fr
structure StpE (Z:Addr → Prop) (c c':Cfg):Prop where
 n:c.H.n ≤ c'.H.n
 mu:∀ i,i < c.H.n → c'.mu i = c.mu i
 adr:∀ i,i < c.H.n → Adr c.s.heap (c'.ent i) (c.ent i)
 fresh:∀ i,c.H.n ≤ i → i < c'.H.n → ∀ p ∈ c'.ent i,c.s.heap.get? p.1 = none
 keep:∀ a o,c.s.heap.get? a = some o → ¬ Trk c a → ¬ Z a → Kp c.fr c.s.heap c'.s.heap a o
 os:c'.s.os = c.s.os
 drawn:c'.s.drawn = c.s.drawn
 fr:c'.fr = c.fr
theorem StpD.e {Z:Addr → Prop} {c c':Cfg} (S:StpD Z c c'):StpE Z c c':=⟨S.n,S.mu,S.adr,S.fresh,S.keep,S.os,S.drawn,S.fr⟩
theorem StpD.refl (Z:Addr → Prop) (c:Cfg):StpD Z c c :=
 ⟨Nat.le_refl _,fun J J=>rfl,fun J J=>.of rfl,fun i h1 h2=>absurd h2 (Nat.not_lt.mpr h1),fun J J e J J=>.inl e,fun J o J e=>⟨o,e⟩,rfl,rfl,rfl⟩
section
variable {Z:Addr → Prop} {c' c'':Cfg}
theorem StpD.ext (S:StpD Z c c'):Ext c c':=⟨S.n,S.mu⟩
theorem StpE.ext (S:StpE Z c c'):Ext c c':=⟨S.n,S.mu⟩
theorem StpE.trk (S:StpE Z c c') {a:Addr} {o:Obj} (ha:c.s.heap.get? a = some o) (ht:¬ Trk c a):¬ Trk c' a:=C1x S.adr S.fresh ha ht
theorem StpD.trk (S:StpD Z c c') {a:Addr} {o:Obj} (ha:c.s.heap.get? a = some o) (ht:¬ Trk c a):¬ Trk c' a:=C1x S.adr S.fresh ha ht
theorem StpD.trk' (S:StpD Z c c') {a:Addr} (ht:Trk c a):Trk c' a:=C4c S.n S.adr ht
theorem Stp.d {X:Option Addr} (S:Stp X c c') (I':Inv D c') (hX:∀ L,X = some L → Z L ∧ ∃ m,c.s.heap.Ns L m):StpD Z c c' where
 n:=S.n
 mu:=S.mu
 adr:=S.adr
 fresh:=S.fresh
 keep:=fun a o e t z=>S.keep a o e t fun q=>z (hX a q).1
 live:=fun a o z e=>by
  by_cases t:Trk c a
  ·exact I'.trkLive (S.trk' t)
  ·by_cases q:X = some a
   ·obtain ⟨m,hm⟩:=S.ns a q (hX a q).2
    exact Ns.live hm
   ·exact (S.keep a o e t q).live
 os:=S.os
 drawn:=S.drawn
 fr:=S.fr
theorem StpD.transE (S:StpD Z c c') (T:StpE Z c' c'') (I':Inv D c'):StpE Z c c'':=by
 have hm:∀ i,i < c.H.n → i < c'.H.n:=fun i h=>Nat.lt_of_lt_of_le h S.n
 have lv:∀ a o,c.s.heap.get? a = some o → ∃ o',c'.s.heap.get? a = some o':=fun a o e=>by
  k_extra "fG"; by_cases t:Trk c a
  ·exact I'.trkLive (S.trk' t)
  ·by_cases z:Z a
   ·exact S.live a o z e
   ·exact (S.keep a o e t z).live
 refine ⟨Nat.le_trans S.n T.n,fun i h=>(T.mu i (hm i h)).trans (S.mu i h),fun i h=>(T.adr i (hm i h)).trans (S.adr i h) lv,B6n lv S.fresh T.adr T.fresh,?_,T.os.trans S.os,T.drawn.trans S.drawn,T.fr.trans S.fr⟩
 ·intro a o e t x
  exact (S.keep a o e t x).trans e fun o' e'=>S.fr ▸ T.keep a o' e' (S.trk e t) x
theorem StpD.trans (S:StpD Z c c') (T:StpD Z c' c'') (I':Inv D c'):StpD Z c c'' :=
 let R:=S.transE T.e I'
 ⟨R.n,R.mu,R.adr,R.fresh,R.keep,fun a o z e=>let ⟨o',e'⟩:=S.live a o z e; T.live a o' z e',R.os,R.drawn,R.fr⟩
theorem StpD.weak {Z':Addr → Prop} (S:StpD Z c c') (I':Inv D c') (h:∀ a,Z a → Z' a):StpD Z' c c' where
 n:=S.n
 mu:=S.mu
 adr:=S.adr
 fresh:=S.fresh
 keep:=fun a o e t z=>S.keep a o e t fun q=>z (h a q)
 live:=fun a o J e=>by
  by_cases t:Trk c a
  ·exact I'.trkLive (S.trk' t)
  ·by_cases z:Z a
   ·exact S.live a o z e
   ·exact (S.keep a o e t z).live
 os:=S.os
 drawn:=S.drawn
 fr:=S.fr
theorem StpE.close {X:Option Addr} (S:Stp X c c') (T:StpE Z c' c'') (I':Inv D c') (hZ:∀ a,Z a → c.s.heap.get? a = none ∨ X = some a) (hX:∀ L,X = some L → (∃ m,c.s.heap.Ns L m) ∧ ∃ m,c''.s.heap.Ns L m):Stp X c c'':=by
 have hm:∀ i,i < c.H.n → i < c'.H.n:=fun i h=>Nat.lt_of_lt_of_le h S.n
 have lv:=S.lv I' fun L hL=>(hX L hL).1
 refine ⟨Nat.le_trans S.n T.n,fun i h=>(T.mu i (hm i h)).trans (S.mu i h),fun i h=>(T.adr i (hm i h)).trans (S.adr i h) lv,B6n lv S.fresh T.adr T.fresh,?_,fun L hL J=>(hX L hL).2,T.os.trans S.os,T.drawn.trans S.drawn,T.fr.trans S.fr⟩
 ·intro a o e t x
  refine (S.keep a o e t x).trans e fun o' e'=>S.fr ▸ T.keep a o' e' (S.trk e t) fun z=>?_
  rcases hZ a z with q | q
  ·replace q:=e ▸ q; (first | exact noP q | exact fT q | exact nomatch q)
  ·exact x q
theorem upD {s':Shared} (I:Inv D c) (k:∀ b o,¬ Z b → c.s.heap.get? b = some o → s'.heap.get? b = some o) (Zt:∀ b,Z b → ¬ Trk c b ∧ D.b0.get? b = none ∧ ∃ o,s'.heap.get? b = some o) (g:AllBare s'.gens) (h1:s'.os = c.s.os) (h2:s'.drawn = c.s.drawn) :
  Inv D (c.up s') ∧ StpD Z c (c.up s') :=
 ⟨I.up (fun a o t e=>k a o (fun z=>(Zt a z).1 t) e) (fun a o e=>k a o (fun z=>by rw [(Zt a z).2.1] at e; k_extra "e") (I.stat a o e)) g,
  ⟨Nat.le_refl _,fun J J=>rfl,fun J J=>.of rfl,fun i h1 h2=>absurd h2 (Nat.not_lt.mpr h1),fun a o e t z=>.inl (k a o z e),fun a J z J=>(Zt a z).2.2,h1,h2,rfl⟩⟩
theorem StpE.weak {Z':Addr → Prop} (S:StpE Z c c') (h:∀ a,Z a → Z' a):StpE Z' c c':=⟨S.n,S.mu,S.adr,S.fresh,fun a o e t z=>S.keep a o e t fun q=>z (h a q),S.os,S.drawn,S.fr⟩
theorem upE {s':Shared} (I:Inv D c) (k:∀ b o,¬ Z b → c.s.heap.get? b = some o → s'.heap.get? b = some o) (Zt:∀ b,Z b → ¬ Trk c b ∧ D.b0.get? b = none) (g:AllBare s'.gens) (h1:s'.os = c.s.os) (h2:s'.drawn = c.s.drawn) :
  Inv D (c.up s') ∧ StpE Z c (c.up s') :=
 ⟨I.up (fun a o t e=>k a o (fun z=>(Zt a z).1 t) e) (fun a o e=>k a o (fun z=>by rw [(Zt a z).2] at e; k_extra "e") (I.stat a o e)) g,
  ⟨Nat.le_refl _,fun J J=>rfl,fun J J=>.of rfl,fun i h1 h2=>absurd h2 (Nat.not_lt.mpr h1),fun a o e t z=>.inl (k a o z e),h1,h2,rfl⟩⟩
theorem FR.monoE {env:Env} {ly:Ly} {f:Fm} (F:FR D c env ly f) (S:StpE Z c c') (hz:¬ Z env.locals):FR D c' env ly f where
 kind:=F.kind
 names:=F.names
 glb:=F.glb
 blt:=F.blt
 ns:=let ⟨m,hm,h⟩:=F.ns; let ⟨o,e⟩:=Ns.live hm; ⟨m,(S.keep _ o e F.unt hz).ns e hm,fun i x v a b=>let ⟨u,h1,h2⟩:=h i x v a b; ⟨u,h1,h2.ext S.ext⟩⟩
 unt:=let ⟨m,hm,_⟩:=F.ns; let ⟨o,ho⟩:=Ns.live hm; S.trk ho F.unt
 cel:=fun x j i a b=>let ⟨h1,h2⟩:=F.cel x j i a b; ⟨Nat.lt_of_lt_of_le h1 S.n,by (refine eqQ (S.mu i h1) ?_); exact h2⟩
 above:=F.above
theorem FR.monoD {env:Env} {ly:Ly} {f:Fm} (F:FR D c env ly f) (S:StpD Z c c') (hz:¬ Z env.locals):FR D c' env ly f:=F.monoE S.e hz
end
end
end Ab
end
section
open PySem PySem.W PyProof.Rows PySem.Calls PySem.SeqAt
namespace Ab
section
variable {prog:Program} {w:World} {A:Around} {E:Value → Shared → Prop} {s:Shared}
theorem B2c {it l:Addr} {i:Nat} {items} {x:Value} {Q:Value → Shared → Prop} (hit:s.heap.IsTupleIter it l i)
  (hl:s.heap.IsTuple l items) (hx:items[i]? = some x)
  (hQ:∀ h',h'.IsTupleIter it l (i + 1) → Heap.SameBut it s.heap h' → Q x { s with heap:=h' }) :
  wpAny (model prog w) A (Builtin.SmallTypes.nextOf (.ref it)) Q E s:=by
 (k_extra "fG"; refine B8y (id hit) fun o ho hc hd=>?_)
 obtain ⟨ol,hol,_,nl,hdl⟩:=hl
 refine wpAny_bind (wpAny_callSpecial?_slot (name:=Str.ofString "__next__") hit.typeIs F.slot_tuple_iterator_next
  (wpAny_call_entry F.slot_tuple_iterator_next hit.typeIs F.entry_tuple_iterator_next ?_ (F.args_tuple_iterator_next_1 _)))
 show wpAny _ _ (field (.ref it) 0 >>= _) _ _ s
 refine wpAny_bind (wpAny_field ho hd (x:=.ref l) rfl ?_)
 (refine eqQ (if_neg (show ¬ ((Value.ref l == Value.none) = true) from Bool.false_ne_true)) ?_)
 refine wpAny_bind (wpAny_field ho hd (x:=.int i 0) rfl ?_)
 refine wpAny_bind (wpAny_seqItems hol hdl ?_)
 simp only [Int.toNat_natCast,hx]
 refine wpAny_bind (wpAny_setField ho hd (by simp) (wpAny_pure ⟨x,rfl,wpAny_pure (hQ _ ?_ (Heap.SameBut.update ..))⟩))
 exact ⟨_,Heap.get?_update_self _ ho (Obj.isFreed_of_fields (Obj.data_mapFields hd _)),(Obj.cls_mapFields ..).trans hc,by
  rw [Obj.data_mapFields hd]; simp [rawInt]⟩
theorem B2j {it l:Addr} {i:Nat} {items} {Q:Value → Shared → Prop} (hh:A.handled = none)
  (hit:s.heap.IsTupleIter it l i) (hl:s.heap.IsTuple l items) (hx:items[i]? = none)
  (hE:∀ h' e,Heap.ExtBut it s.heap h' → (∃ o,h'.get? e = some o ∧ o.cls = .type "StopIteration") → E (.ref e) { s with heap:=h' }) :
  wpAny (model prog w) A (Builtin.SmallTypes.nextOf (.ref it)) Q E s:=by
 (k_extra "fG"; refine B8y (id hit) fun o ho hc hd=>?_)
 obtain ⟨ol,hol,_,nl,hdl⟩:=hl
 refine wpAny_bind (wpAny_callSpecial?_slot (name:=Str.ofString "__next__") hit.typeIs F.slot_tuple_iterator_next
  (wpAny_call_entry F.slot_tuple_iterator_next hit.typeIs F.entry_tuple_iterator_next ?_ (F.args_tuple_iterator_next_1 _)))
 show wpAny _ _ (field (.ref it) 0 >>= _) _ _ s
 refine wpAny_bind (wpAny_field ho hd (x:=.ref l) rfl ?_)
 (refine eqQ (if_neg (show ¬ ((Value.ref l == Value.none) = true) from Bool.false_ne_true)) ?_)
 refine wpAny_bind (wpAny_field ho hd (x:=.int i 0) rfl ?_)
 refine wpAny_bind (wpAny_seqItems hol hdl ?_)
 simp only [Int.toNat_natCast,hx]
 refine wpAny_bind (wpAny_rule (wpAny_bind (wpAny_setField ho hd (by simp) ?_)))
 refine wpAny_bind ?_
 refine wpAny_bind (wpAny_newObj_type ?_ (by size_fits))
 refine wpAny_bind (m:=firstArgMember _ _) (wpAny_of_eq (a:=Value.none) (by first | rfl | (simp only [firstArgMember]; rfl)) ?_)
 refine wpAny_newObj_type ?_ (by size_fits)
 refine wpAny_bind (wpAny_handled ?_)
 first | rw [show A.in1.handled = none from hh] | rw [hh]
 refine wpAny_bind (wpAny_pure (wpAny_throw ?_))
 exact hE _ _ (((Heap.SameBut.update ..).extBut.push _).push _) ⟨_,Heap.get?_push_size _ rfl,rfl⟩
theorem C1p (hh:A.handled = none) (it l:Addr) (hne:l ≠ it) (items:Array Value) :
  Draws prog w A it [it,l] items.size (fun i v=>items[i]? = some v) (fun i h=>h.IsTupleIter it l i ∧ h.IsTuple l items) where
 live:=fun Z Z st=>let ⟨o,ho,_⟩:=st.1; ⟨o,ho⟩
 frame:=fun Z Z Z st hk=>⟨st.1.at fun o e=>hk it (by simp) o e,st.2.at fun o e=>hk l (by simp) o e⟩
 item:=fun i s Q E hi st hQ=>by
  refine B2c st.1 st.2 (x:=items[i]) (by simp [hi]) fun h' hit' hs'=>?_
  exact hQ _ h' s.toks (by simp [hi]) ⟨hit',st.2.extBut hs'.extBut hne⟩ hs'
 done:=fun s Q E st hE=>B2j hh st.1 st.2 (by simp) hE
theorem C9v {x:Bool} {Q:Bool → Shared → Prop} {s:Shared} (h:∀ b,Q b s):wpAny (model prog w) A (pure x) Q E s:=wpAny_pure (h x)
theorem B2z (l:Addr) (items:Array Value) (n:Nat) (dct:Option Addr) (sl:Array (Option Value)) :
  Meets (Builtin.«enumerate.__new__» ⟨[.type "enumerate",.ref l],[]⟩) (fun _ R s=>s.heap.get? l = some { cls:=.type "tuple",dict:=dct,data:=.seq items n,slots:=sl } ∧
   R (.ok (.ret (.ref (s.heap.push { cls:=.type "tuple_iterator",data:=.fields #[.ref l,.int 0 0] }).objs.size)))
    {s with heap:=(s.heap.push { cls:=.type "tuple_iterator",data:=.fields #[.ref l,.int 0 0] }).push { cls:=.type "enumerate",data:=.fields #[.none,.bool false,.ref s.heap.objs.size,rawInt 0,.none,.none] } }) :=
 .of_wp fun prog w A R s h=>by
  obtain ⟨hp,g,d,tk,os⟩:=s; (have hl:=h.1; have h:=h.2)
  have hsub:=sub_enumerate
  have hL:Heap.IsTuple (Shared.heap ⟨hp,g,d,tk,os⟩) l items:=⟨_,hl,rfl,n,rfl⟩
  wp_walk using PySem.AutoSeq1.wpAny_loadPart' hl
  refine wpAny_stack_any fun st=>C9v fun b=>?_
  k_extra "b"
  ·wp_walk using PySem.AutoSeq1.wpAny_loadPart' hl,wpAny_pyIter_tuple hL
   exact ⟨_,rfl,h⟩
  ·wp_walk using PySem.AutoSeq1.wpAny_loadPart' hl,wpAny_pyIter_tuple hL
   exact ⟨_,rfl,h⟩
theorem B3a {l:Addr} {items:Array Value} {Q:Value → Shared → Prop} (hL:s.heap.IsTuple l items)
  (h:∀ h',IsEnum h' (s.heap.objs.size + 1) s.heap.objs.size 0 .none → h'.IsTupleIter s.heap.objs.size l 0 → h'.objs.size = s.heap.objs.size + 2 →
   (∀ b o,s.heap.get? b = some o → h'.get? b = some o) → Q (.ref (s.heap.objs.size + 1)) { s with heap:=h' }) :
  wpAny (model prog w) A (call (.type "enumerate") [.ref l]) Q E s:=by
 k_extra "fG"; obtain ⟨⟨c,dct,dt,sl⟩,hl,hc,n,hd⟩:=hL
 replace hc:c = .type "tuple" := hc
 replace hd:dt = .seq items n:=hd
 subst hc hd
 refine callType_new F.called_enumerate (by decide) (F.typeCall_enumerate_1 _) (F.newCall_enumerate_1 _) (fun obj=>F.args_object_init_2 obj _) F.entry_enumerate_new
  (B2z l items n dct sl) ⟨hl,?_⟩
 have hz:(s.heap.push { cls:=.type "tuple_iterator",data:=.fields #[.ref l,.int 0 0] }).objs.size = s.heap.objs.size + 1:=Heap.size_push ..
 (refine eqQ hz ?_)
 have he:IsEnum ((s.heap.push { cls:=.type "tuple_iterator",data:=.fields #[.ref l,.int 0 0] }).push
   {cls:=.type "enumerate",data:=.fields #[.none,.bool false,.ref s.heap.objs.size,rawInt 0,.none,.none] }) (s.heap.objs.size + 1) s.heap.objs.size 0 .none:=by
  have:=Heap.get?_push_size (s.heap.push { cls:=.type "tuple_iterator",data:=.fields #[.ref l,.int 0 0] })
   (o:={ cls:=.type "enumerate",data:=.fields #[.none,.bool false,.ref s.heap.objs.size,rawInt 0,.none,.none] }) rfl
  rw [hz] at this; exact this
 refine ⟨⟨_,he,rfl⟩,h _ he ⟨_,Heap.get?_push_of_some _ (Heap.get?_push_size _ rfl),rfl,rfl⟩ (by rw [Heap.size_push,hz]) fun b o x=>Heap.get?_push_of_some _ (Heap.get?_push_of_some _ x)⟩
end
section
variable {prog:Program} {w:World} {A:Around} {D:Gd} {c:Cfg} {cx:Cx} {g:G} {r:Rn}
theorem Inv.atTrk (I:Inv D c) {i:Nat} (hi:i < c.H.n) (hl:(∃ xs,c.H.get i = .list xs) ∨ ∃ xs,c.H.get i = .tup xs):Trk c (c.mu i):=by
 have:=I.rel i hi
 k_extra "fG"; rcases hl with ⟨xs,h⟩ | ⟨xs,h⟩
 ·rw [h] at this
  obtain ⟨_,vs,k,e,_⟩:=this
  exact ⟨i,hi,_,by (refine eqQ e ?_); exact .head _,rfl⟩
 ·rw [h] at this
  obtain ⟨_,vs,k,e,_⟩:=this
  exact ⟨i,hi,_,by (refine eqQ e ?_); exact .head _,rfl⟩
theorem B5h {α:Type} {f:α → AV} {l:List α} {k:Nat} {o:Option AV} (h:itE f l k = some o):(∀ v,o = some v → ∃ a,nth? l k = some a ∧ f a = v) ∧ (o = Option.none → k = l.length) :=
 B1i h (fun a e h=>⟨fun v z=>⟨a,e,oYY ((oYY h).trans z)⟩,fun z=>noP (z.symm.trans (oYY h).symm)⟩) fun e h=>prB h fun q h=>⟨fun v z=>noP ((oYY h).trans z),fun z=>(Nat.eq_of_beq_eq_true q).trans (B1n l)⟩
theorem B7r {l:List AV} {vs:List Value} {i:Nat} {o:Option AV} (hr:VRs D.θ c l vs) (hi:itE (fun v=>v) l i = some o):(∀ v,o = some v → i < vs.toArray.size ∧ ∀ u,vs.toArray[i]? = some u → VR D.θ c v u) ∧ (o = Option.none → i = vs.toArray.size):=by
 k_extra "fG"; obtain ⟨h1,h2⟩:=B5h hi
 refine ⟨fun v e=>?_,fun e=>?_⟩
 ·k_extra "fG"; (refine B0o (h1 v e) fun a q e2=>?_)
  (refine B0o (hr.get q) fun u hu hru=>?_)
  refine ⟨by have:=(List.getElem?_eq_some_iff.mp hu).1; simpa using this,fun u' hu'=>?_⟩
  have:vs[i]? = some u':=by simpa using hu'
  rw [hu] at this
  refine B0g this ?_
  exact e2 ▸ hru
 ·(refine eqQ (h2 e) ?_; refine eqQ List.size_toArray ?_; exact eqQ hr.length rfl)
theorem D1r {a m:Addr} (ht:Trk c m):∀ b ∈ [a,m],b = a ∨ Trk c b:=fun b hb=>(List.mem_cons.mp hb).elim .inl fun hb=>.inr (List.mem_singleton.mp hb ▸ ht)
theorem ItP.walk (I:Inv D c) (hP:D.P = w.params) {it:It} {i:Nat} {a:Addr} (x:ItP c it i a c.s.heap) (ha:¬ Trk c a) {o:Option AV} (hi:D7a it i c.H = some o) :
  ∃ (fp:List Addr) (n:Nat) (P:Nat → Value → Prop) (St:Nat → Heap → Prop),a ∈ fp ∧ (∀ b ∈ fp,b = a ∨ Trk c b) ∧ (∀ A',A'.handled = Option.none → Walks prog w A' a fp [a] n P St) ∧
   (drw it = true → ∀ A',A'.handled = Option.none → Draws prog w A' a fp n P St) ∧ St i c.s.heap ∧ (∀ v,o = some v → i < n ∧ ∀ u,P i u → VR D.θ c v u) ∧ (o = Option.none → i = n) ∧ ∀ j h',St j h' → ItP c it j a h':=by
 k_extra "fG"; cases it with
 | lst id =>
  (have hid:=x.1; have hit:=x.2)
  refine onP hi fun l q hi=>?_
  obtain ⟨hll,vs,k,e,hr,ho⟩:=I.list hid (B0w q)
  have ht:=I.atTrk hid (.inl ⟨l,B0w q⟩)
  have hne:c.mu id ≠ a:=fun z=>ha (z ▸ ht)
  exact ⟨[a,c.mu id],vs.toArray.size,_,_,.head _,D1r ht,fun A' hA=>Walks.list hA a (c.mu id) hne vs.toArray,fun _ A' hA=>Draws.list hA a (c.mu id) hne vs.toArray,⟨hit,B1d ho⟩,(B7r hr hi).1,(B7r hr hi).2,fun j h' st=>⟨hid,st.1⟩⟩
 | tup id =>
  (have hid:=x.1; have hit:=x.2)
  refine onP hi fun l q hi=>?_
  obtain ⟨hll,vs,k,e,hr,ho⟩:=I.tup hid (B1z q)
  have ht:=I.atTrk hid (.inr ⟨l,B1z q⟩)
  have hne:c.mu id ≠ a:=fun z=>ha (z ▸ ht)
  exact ⟨[a,c.mu id],vs.toArray.size,_,_,.head _,D1r ht,fun A' hA=>Walks.tuple hA a (c.mu id) hne vs.toArray,fun _ A' hA=>C1p hA a (c.mu id) hne vs.toArray,⟨hit,B3v ho⟩,(B7r hr hi).1,(B7r hr hi).2,fun j h' st=>⟨hid,st.1⟩⟩
 | str sq =>
  k_extra "fG"; obtain ⟨hs,t,hit⟩:=x
  have get:∀ v,o = some v → i < (⟨sq.toArray⟩:Str).cps.size ∧ ∀ u,SignAt ⟨sq.toArray⟩ i u → VR D.θ c v u:=by
   intro v hv
   (refine B0o ((B5h hi).1 v hv) fun ch q' e2=>?_)
   refine eqR e2 ?_
   rw [C2r] at q'
   have hlt:=(List.getElem?_eq_some_iff.mp q').1
   refine ⟨by simpa using hlt,fun u ⟨ch',t',hc,hu⟩=>?_⟩
   have:sq[i]? = some ch':=by simpa using hc
   replace this:=q' ▸ this; k_extra "this"
   refine ⟨⟨by unfold lim; simp,fun z hz=>?_⟩,t',hu⟩
   (refine eqQ (List.mem_singleton.mp hz) ?_)
   exact hs.2 _ (List.mem_of_getElem? q')
  have fin:o = Option.none → i = (⟨sq.toArray⟩:Str).cps.size:=fun hv=>((B5h hi).2 hv).trans (by simp)
  k_extra "fG"; cases hA:(⟨sq.toArray⟩:Str).cps.all (· < 128) with
  | true =>
   have hT:strIterType ⟨sq.toArray⟩ = "str_ascii_iterator" := by unfold strIterType; (exact eqQ (if_pos hA) rfl)
   rw [hT] at hit
   refine ⟨[a],_,_,_,by simp,fun b hb=>.inl (List.mem_singleton.mp hb),fun A' hA=>Walks.strAscii hA a ⟨sq.toArray⟩ t,fun _ A' hA=>Draws.strAscii hA a ⟨sq.toArray⟩ t,hit,get,fin,fun j h' st=>⟨hs,t,by (refine eqQ hT ?_); exact st⟩⟩
  | false =>
   have hT:strIterType ⟨sq.toArray⟩ = "str_iterator" := by unfold strIterType; rw [if_neg (by rw [hA]; simp)]
   rw [hT] at hit
   refine ⟨[a],_,_,_,by simp,fun b hb=>.inl (List.mem_singleton.mp hb),fun A' hA=>Walks.strWide hA a ⟨sq.toArray⟩ t,fun _ A' hA=>Draws.strWide hA a ⟨sq.toArray⟩ t,hit,get,fin,fun j h' st=>⟨hs,t,by (refine eqQ hT ?_); exact st⟩⟩
 | rng b n =>
  refine ⟨[a],n,_,_,by simp,fun b hb=>.inl (List.mem_singleton.mp hb),fun A' hA=>Walks.range hA a b 1 n,(fun hn=>(by first | exact noP hn | exact fT hn | (first | exact noP hn | exact fT hn | exact nomatch hn))),x,fun v hv=>?_,fun hv=>?_,fun j h' st=>st⟩
  ·k_extra "fG"; subst hv
   refine blP hi (fun q hi=>?_) fun q hi=>prB hi fun q2 hi=>noP (oYY hi)
   cases oYY (oYY hi)
   refine ⟨nYY q,fun u ⟨t,hu⟩=>⟨t,by (refine eqQ hu ?_); simp⟩⟩
  ·k_extra "fG"; k_extra "fG"; subst hv
   exact blP hi (fun q hi=>noP (oYY hi).symm) fun q hi=>prB hi fun q2 hi=>Nat.eq_of_beq_eq_true q2
end
end Ab
end
section
open PySem PySem.W PyProof.Rows PySem.Calls PySem.SeqAt
namespace Ab
section
variable {prog:Program} {w:World} {A:Around} {D:Gd} {c:Cfg} {cx:Cx} {g:G} {r:Rn}
noncomputable def Zi (p:Addr × Addr):Addr → Prop:=fun b=>b = p.1 ∨ b = p.2
noncomputable def Zf (p:Addr × Addr) (L:Addr):Addr → Prop:=fun b=>Zi p b ∨ b = L
theorem B6p {T:Expr} {it:Addr} {u:Value} {s:Shared} {Q:Unit → Shared → Prop} {o:Obj} {vs:Array Value} {n:String} (ho:s.heap.get? it = some o) (hc:o.cls = .type n) (hd:o.data = .fields vs) (hn:n = "list_iterator" ∨ n = "tuple_iterator")
  (hu:∃ a,u = .ref a) (h:Q () s):wpAny (model prog w) A (letOwnedTupleGo T (.ref it) u) Q Nev s:=by
 (obtain ⟨a,e98⟩:=hu; refine eqQ e98 ?_)
 have key : wpAny (model prog w) A (do
   let o ← load it
   match o.cls,o.data with
   | .type n,.fields vs =>
    if ["enumerate", "zip", "dict_itemiterator", "dict_reverseitemiterator", "odict_iterator", "itertools.zip_longest", "itertools.pairwise"].contains n && vs[0]? == some (rawInt a) then
     rule "for.unpacks-the-owned-tuple"
     updateField it 0 .none
   | J,Y=>pure ()) Q Nev s:=by
  refine wpAny_bind (wpAny_load ho ?_)
  (refine eqQ hc ?_; refine eqQ hd ?_)
  dsimp only
  (refine eqQ (if_neg (by rcases hn with rfl | rfl <;> simp)) ?_)
  exact wpAny_pure h
 cases T <;> first | exact key | exact wpAny_pure h
theorem B1f {sl:Sl} {v:AV} {f f':Fm} {H H':St} (h:C0o sl v f H = some (f',H')):f'.dep = f.dep:=by
 cases sl with
 | loc i=>refine B0j h ?_; rfl
 | cel i=>exact onP h fun Z Z h=>onP h fun Z Z h=>by refine B0j h ?_; rfl
theorem B7j (I:Inv D c) (hh:A.handled = Option.none) {env:Env} {ly:Ly} {f f1 f2:Fm} (F:FR D c env ly f) {x y:Str} {px py pos:Pos} {k:Nat} {sx sy:Sl} {T:Addr} {a b:AV} {u1 u2:Value} {H1 H2:St}
  (hT:c.s.heap.IsTuple T #[u1,u2]) (hx:cSlot ly x = some sx) (hy:cSlot ly y = some sy) (ra:VR D.θ c a u1) (rb:VR D.θ c b u2) (h1:C0o sx a f c.H = some (f1,H1)) (h2:C0o sy b f1 H1 = some (f2,H2)) :
  f2.dep = f.dep ∧ wpAny (model prog w) A (assign (.Tuple [.Name x px,.Name y py] k pos) env (.ref T)) (fun Z s=>PF D c env ly f2 H2 s) Nev c.s:=by
 have d1:=(B3p (prog:=prog) (w:=w) (A:=A) I F hx h1 ra).1
 have dep2:=B1f h2
 refine ⟨dep2.trans d1,?_⟩
 refine wpAny_assign_Tuple hh hT rfl rfl fun h₃ hx₃=>?_
 (have I':=(B3m (s':={ c.s with heap:=h₃ }) I (fun b o e=>hx₃ b o (Nat.ne_of_lt (Heap.lt_size e)) e) I.gens rfl rfl).1; have S':=(B3m (s':={ c.s with heap:=h₃ }) I (fun b o e=>hx₃ b o (Nat.ne_of_lt (Heap.lt_size e)) e) I.gens rfl rfl).2)
 refine wpAny_bind (wpAny_holding (wpAny_assign_Name (wpAny_mono (B3p I' (F.mono S') hx h1 (ra.mono S')).2 (fun Z s1 hp=>?_) Mine.idE)))
 ((clear h1; obtain ⟨c1,e98,rfl,I1,S1,F1⟩:=hp); refine eqR e98 ?_)
 refine wpAny_bind (wpAny_holding (wpAny_assign_Name (wpAny_mono (B3p I1 F1 hy h2 ((rb.mono S').mono S1)).2 (fun Z s2 hp=>wpAny_pure ?_) Mine.idE)))
 (obtain ⟨c2,rfl,e98,I2,S2,F2⟩:=hp; refine eqR e98 ?_)
 exact ⟨c2,rfl,rfl,I2,(F.weak S').trans (S1.trans S2 I1 (F.mono S').nsx) I' F.nsx,F2⟩
inductive TP (D:Gd) (c:Cfg) (env:Env) (ly:Ly) (f:Fm) (H:St) (k:Nat) (it:It) (i:Nat) (p:Addr × Addr) (s:Shared):Prop
 | mk (c':Cfg) (hs:c'.s = s) (hH:c'.H = H) (I:Inv D c') (S:StpD (Zf p env.locals) c c') (F:FR D c' env ly f) (X:ItR D c' k it i p c'.s)
theorem ItR.notL {k:Nat} {it:It} {i:Nat} {p:Addr × Addr} {env:Env} {ly:Ly} {f:Fm} (X:ItR D c k it i p c.s) (F:FR D c env ly f):¬ Zi p env.locals:=by
 (k_extra "fG"; refine B0o F.ns fun m hm Z=>?_)
 obtain ⟨⟨o1,v1,e1,d1⟩,⟨o2,v2,e2,d2⟩⟩:=X.fields
 rintro (q | q)
 ·exact Ns.noFields hm (q ▸ e1) d1
 ·exact Ns.noFields hm (q ▸ e2) d2
theorem TP.of {env:Env} {ly:Ly} {f f':Fm} {H:St} {k:Nat} {it:It} {i:Nat} {p:Addr × Addr} {s:Shared} {c1:Cfg} (I1:Inv D c1) (S:StpD (Zi p) c c1) (F1:FR D c1 env ly f) (X1:ItR D c1 k it i p c1.s) (h:PF D c1 env ly f' H s) :
  TP D c env ly f' H k it i p s:=by
 obtain ⟨c2,rfl,rfl,I2,S2,F2⟩:=h
 have nsx:=F1.nsx
 refine ⟨c2,rfl,rfl,I2,(S.weak I1 fun a z=>.inl z).trans (S2.d I2 fun L hL=>?_) I1,F2,X1.step S2 (nsx _ rfl)⟩
 refine B0g hL ?_
 exact ⟨.inr rfl,nsx _ rfl⟩
theorem C8e (I:Inv D c) (hP:D.P = w.params) (hh:A.handled = Option.none) {k:Nat} {it:It} {i:Nat} {p:Addr × Addr} (hk:k ≠ 1) (X:ItR D c k it i p c.s) {v:AV} (hi:D7a it i c.H = some (some v)) :
  wpAny (model prog w) A (pyNext (.ref p.1)) (fun o s1=>∃ u c1,o = some u ∧ c1.s = s1 ∧ c1.H = c.H ∧ Inv D c1 ∧ StpD (Zi p) c c1 ∧ VR D.θ c1 v u ∧ ItR D c1 k it (i + 1) p c1.s) Nev c.s:=by
 obtain ⟨⟨t1,t2,b1,b2⟩,hp,he⟩:=X
 have he:p.1 = p.2:=k1P he (fun z h=>absurd z hk) fun z h=>h
 (refine x4a8 (hp.walk (prog:=prog) (w:=w) I hP t2 hi) fun fp n P St ha hfp W J st hv J hb=>?_)
 (have hlt:=(hv v rfl).1; have hr:=(hv v rfl).2)
 (refine eqQ he ?_)
 refine (W A hh).item i c.s _ _ hlt st fun u h' tk hP st' kp=>?_
 k_extra "fG"; have hp':=hb _ _ st'
 (refine C0i hp'.fields fun o vs e d=>?_)
 obtain ⟨I',S'⟩:=upD (Z:=Zi p) (s':={ c.s with heap:=h',toks:=tk }) I (fun b o z e=>kp b o (fun q=>z (.inr (List.mem_singleton.mp q))) e)
  (fun b z=>by rcases z with rfl | rfl <;> first | exact ⟨t1,b1,o,he ▸ e⟩ | exact ⟨t2,b2,o,e⟩) I.gens rfl rfl
 refine ⟨u,c.up { c.s with heap:=h',toks:=tk },rfl,rfl,rfl,I',S',(hr u hP).ext S'.ext,⟨t1,t2,b1,b2⟩,hp'.ext S'.ext,k1I (fun z=>absurd z hk) fun z=>he⟩
theorem B7l (I:Inv D c) (hP:D.P = w.params) (hh:A.handled = Option.none) {env:Env} {ly:Ly} {f f':Fm} (F:FR D c env ly f) {k:Nat} {it:It} {i:Nat} {p:Addr × Addr} (X:ItR D c k it i p c.s) {target:Expr} {t:Tg} {v:AV} {H:St}
  (ht:cTg ly target = some t) (hi:D7a it i c.H = some (some v)) (hp:putT t k i v f c.H = some (f',H)) :
  f'.dep = f.dep ∧ wpAny (model prog w) A (pyNext (.ref p.1)) (fun o s1=>∃ u,o = some u ∧ wpAny (model prog w) A (letOwnedTupleGo target (.ref p.1) u) (fun _ s2=>wpAny (model prog w) A (assign target env u) (fun _ s3=>TP D c env ly f' H k it (i + 1) p s3) Nev s2) Nev s1) Nev c.s:=by
 have hL:=X.notL F
 cases e1:nmO target with
 | some x =>
  k_extra "fG"; obtain ⟨px,rfl⟩:=B0s e1
  (k_extra "fG"; refine B0o (Option.map_eq_some_iff.mp (show (cSlot ly x).map .one = some t from ht)) fun sx hx e92=>?_; (clear ht; subst e92))
  refine blP hp (fun z hp=>noP hp) fun hkb hp=>?_
  have hk:k ≠ 1:=fun z=>Bool.noConfusion ((congrArg (Nat.beq · 1) z).symm.trans hkb)
  refine ⟨?_,wpAny_mono (C8e I hP hh hk X hi) (fun o s1 ho=>?_) Mine.idE⟩
  ·exact B1f hp
  (refine x2a7 ho fun u c1 e92 e93 hH I1 S1 r1 X1=>?_; refine eqQ e92 ?_; refine eqR e93 ?_)
  k_extra "fG"; refine ⟨u,rfl,wpAny_pure ?_⟩
  have F1:=F.monoD S1 hL
  exact wpAny_assign_Name (wpAny_mono (B3p I1 F1 hx (by (refine eqQ hH ?_); exact hp) r1).2 (fun _ s3 h3=>TP.of I1 S1 F1 X1 h3) Mine.idE)
 | none =>
  have ht : (do
   let p ← two! (← F1f target)
   some (Tg.two (← cSlot ly (← nmO p.1)) (← cSlot ly (← nmO p.2)))) = some t:=by unfold cTg at ht; replace ht:=e1 ▸ ht; exact ht
  refine B5d ht fun ts ets pq epq x ex ht=>B5d ht fun sx hx y ey sy hy ht=>B0m ht fun z=>?_
  (clear ht; (clear ht; (clear ht; (clear ht; subst z))))
  ((refine x2a1 (C5k ets) fun k0 pos e98=>?_); refine eqQ e98 ?_)
  obtain ⟨px,ex⟩:=B0s ex
  obtain ⟨py,ey⟩:=B0s ey
  (refine eqQ (twoE epq) ?_; refine eqQ ex ?_; refine eqQ ey ?_)
  k_extra "fG"
  refine blP hp (fun hkb hp=>?_) fun hkb hp=>?_
  ·-- enumerate
   obtain rfl:=Nat.eq_of_beq_eq_true hkb
   refine onP hp fun p1 h1 hp=>?_
   (have f1:=p1.1; have H1:=p1.2)
   obtain ⟨⟨t1,t2,b1,b2⟩,hpI,hne,hnr,old,hE⟩:=X
   (refine x4a8 (hpI.walk (prog:=prog) (w:=w) I hP t2 hi) fun fp n P St ha hfp W Dr st hv _ hb=>?_)
   (have hlt:=(hv v rfl).1; have hr:=(hv v rfl).2)
   have hef:p.1 ∉ fp:=fun q=>by
    rcases hfp _ q with z | z
    ·exact hne z
    ·exact t1 z
   have WT:=WalksT.enumerateD (Dr hnr A.in1 hh) p.1 hne hef ha
   have hd:f'.dep = f.dep:=(B1f hp).trans (B1f h1)
   refine ⟨hd,WT.item i c.s _ _ hlt ⟨⟨old,hE⟩,st⟩ fun T vals h' tk hP hTsz hT hMid kp=>?_⟩
   (k_extra "fG"; refine C0i hP fun tk1 u hPu e93=>?_; (clear hP; subst e93))
   refine ⟨.ref T,rfl,WT.go _ k0 pos i T _ _ _ hMid fun h2 st2 kp2=>?_⟩
   k_extra "fG"; dsimp only at kp kp2
   obtain ⟨⟨old2,hE2⟩,hst2⟩:=st2
   have hp2:=hb _ _ hst2
   (refine C0i hp2.fields fun o2 vs2 e2 d2=>?_)
   have hTw:T ∉ [p.1,p.2]:=WT.apart i T h' hMid
   obtain ⟨I',S'⟩:=upD (Z:=Zi p) (s':={ c.s with heap:=h2,toks:=tk }) I (fun b o z e=>kp2 b o (fun q=>z (by simpa [Zi] using q)) (kp b o (fun q=>z (by simpa [Zi] using q)) e))
    (fun b z=>by rcases z with rfl | rfl <;> first | exact ⟨t1,b1,_,hE2⟩ | exact ⟨t2,b2,_,e2⟩) I.gens rfl rfl
   have F1:=F.monoD S' hL
   have X1:ItR D (c.up { c.s with heap:=h2,toks:=tk }) 1 it (i + 1) p { c.s with heap:=h2,toks:=tk }:=⟨⟨t1,t2,b1,b2⟩,hp2.ext S'.ext,hne,hnr,old2,hE2⟩
   have hT2:h2.IsTuple T #[.int i tk1,u]:=hT.at fun o e=>kp2 T o hTw e
   exact wpAny_mono (B7j (c:=c.up { c.s with heap:=h2,toks:=tk }) I' hh F1 hT2 hx hy (a:=.int i) ⟨tk1,rfl⟩ ((hr u hPu).ext S'.ext) h1 hp).2 (fun _ s3 h3=>TP.of I' S' F1 X1 h3) Mine.idE
  ·-- pairs
   have hk:k ≠ 1:=fun z=>Bool.noConfusion ((congrArg (Nat.beq · 1) z).symm.trans hkb)
   refine onP hp fun n0 ev hp=>onP hp fun l q hp=>onP hp fun pq eq hp=>onP hp fun p1 h1 hp=>?_
   (have f1:=p1.1; have H1:=p1.2)
   have q:=(B1z q).trans (congrArg AO.tup (twoE eq))
   replace hi:=(B0n ev) ▸ hi
   refine ⟨(B1f hp).trans (B1f h1),wpAny_mono (C8e I hP hh hk X hi) (fun o s1 ho=>?_) Mine.idE⟩
   (refine x2a7 ho fun u c1 e92 e93 hH I1 S1 r1 X1=>?_; refine eqQ e92 ?_; (clear ho; subst e93))
   refine ⟨u,rfl,?_⟩
   ((have hn:=r1.1; have e98:=r1.2); refine eqQ e98 ?_)
   rw [← hH] at q h1
   k_extra "fG"; obtain ⟨_,vs,kk,_,hvs,hT⟩:=I1.tup hn q
   cases hvs with
   | cons ra hvs =>
    cases hvs with
    | cons rb hvs =>
     cases hvs
     have F1:=F.monoD S1 hL
     have X1':=X1
     (have hpI:=X1'.2.1; have he:=X1'.2.2)
     have he:p.1 = p.2:=k1P he (fun z h=>absurd z hk) fun z h=>h
     have go:∃ o vs nm,c1.s.heap.get? p.1 = some o ∧ o.cls = .type nm ∧ o.data = .fields vs ∧ (nm = "list_iterator" ∨ nm = "tuple_iterator"):=by
      (refine eqQ he ?_)
      k_extra "fG"; cases it with
      | lst id=>obtain ⟨_,o,ho,hc,hd⟩:=hpI; exact ⟨o,_,_,ho,hc,hd,.inl rfl⟩
      | tup id=>obtain ⟨_,o,ho,hc,hd⟩:=hpI; exact ⟨o,_,_,ho,hc,hd,.inr rfl⟩
      | str sq=>exact B0o ((B5h hi).1 _ rfl) fun a Z e=>noP (congrArg B4q e)
      | rng b n=>exact blP hi (fun z hi=>noP (congrArg B4q (oYY (oYY hi)))) fun z hi=>prB hi fun z hi=>noP (oYY hi)
     (refine D7g go fun o vs nm ho hc hd hnm=>?_)
     refine B6p ho hc hd hnm ⟨_,rfl⟩ ?_
     exact wpAny_mono (B7j I1 hh F1 (B3v hT) hx hy ra rb h1 hp).2 (fun _ s3 h3=>TP.of I1 S1 F1 X1 h3) Mine.idE
theorem D2u (I:Inv D c) (hP:D.P = w.params) (hh:A.handled = Option.none) {k:Nat} {it:It} {i:Nat} {p:Addr × Addr} (X:ItR D c k it i p c.s) (hi:D7a it i c.H = some Option.none) :
  wpAny (model prog w) A (pyNext (.ref p.1)) (fun o s1=>o = Option.none ∧ ∃ c1,c1.s = s1 ∧ c1.H = c.H ∧ Inv D c1 ∧ StpE (Zi p) c c1 ∧ ∀ {env ly f},FR D c env ly f → FR D c1 env ly f) Nev c.s:=by
 have notL:∀ {env ly f},FR D c env ly f → ¬ Zi p env.locals:=fun F=>X.notL F
 obtain ⟨⟨t1,t2,b1,b2⟩,hp,he⟩:=X
 (refine x4a8 (hp.walk (prog:=prog) (w:=w) I hP t2 hi) fun fp n P St ha hfp W Dr st J hn hb=>?_)
 cases hn rfl
 have fin:∀ (h':Heap) (tk:Nat),(∀ b o,¬ Zi p b → c.s.heap.get? b = some o → h'.get? b = some o) →
   (Option.none:Option Value) = Option.none ∧ ∃ c1:Cfg,c1.s = { c.s with heap:=h',toks:=tk } ∧ c1.H = c.H ∧ Inv D c1 ∧ StpE (Zi p) c c1 ∧ ∀ {env ly f},FR D c env ly f → FR D c1 env ly f:=by
  intro h' tk kp
  k_extra "fG"; obtain ⟨I',S'⟩:=upE (Z:=Zi p) (s':={ c.s with heap:=h',toks:=tk }) I kp (fun b z=>by rcases z with rfl | rfl <;> first | exact ⟨t1,b1⟩ | exact ⟨t2,b2⟩) I.gens rfl rfl
  exact ⟨rfl,c.up { c.s with heap:=h',toks:=tk },rfl,rfl,I',S',fun F=>F.monoE S' (notL F)⟩
 refine k1P he (fun z he=>?_) fun z he=>?_
 ·k_extra "fG"; obtain ⟨hne,hnr,old,hE⟩:=he
  have hef:p.1 ∉ fp:=fun q=>by
   rcases hfp _ q with z | z
   ·exact hne z
   ·exact t1 z
  refine (WalksT.enumerateD (Dr hnr A.in1 hh) p.1 hne hef ha).done c.s _ _ ⟨⟨old,hE⟩,st⟩ fun h' tk kp=>?_
  exact fin h' tk fun b o z e=>kp b o (fun q=>z (by simpa [Zi] using q)) e
 ·(refine eqQ he ?_)
  refine (W A hh).done c.s _ _ st fun h' tk kp=>?_
  exact fin h' tk fun b o z e=>kp b o (fun q=>z (.inr (List.mem_singleton.mp q))) e
end
end Ab
end
section
open PySem PySem.W PyProof.Rows PySem.Calls PySem.SeqAt
namespace Ab
section
variable {prog:Program} {w:World} {A:Around} {D:Gd} {c:Cfg} {cx:Cx} {g:G} {r:Rn}
theorem C1w (hr:RnOk prog w D g r) {ly:Ly} {env:Env} {f:Fm} {n:Nat} {as:List Expr} {Es:List E} {vs:List AV} {H:St} {fv:Value} (hp:as.all B0z = true) (hc:cL (cE g n ly) as = some Es) (h:evs r f Es c.H = some (vs,H)) (I:Inv D c) (F:FR D c env ly f) (K:AOk D A f.dep c env) :
  wpAny (model prog w) A (evalArgs fv true (as.map fun e=>(false,eval e env)) []) (fun a s=>a.kw = [] ∧ PVs D c vs H a.pos s) Nev c.s:=by
 have:=C8a hr hc h I F K
 cases as with
 | nil =>
  k_extra "hc"; refine B0j h ?_
  exact evalArgs_nil3 ⟨rfl,c,rfl,rfl,I,Stp.refl _ _,.nil⟩
 | cons e as =>
  exact evalArgs_plain (wpAny_mono this (fun us s1 h1=>⟨rfl,h1⟩) Mine.idE)
theorem B6l (as:List Expr) (env:Env):(as.map fun e=>(false,eval e env)).any (·.1) = false:=by
 induction as with
 | nil=>rfl
 | cons e as ih=>(refine eqQ List.map_cons ?_; refine eqQ List.any_cons ?_; refine eqQ ih ?_); rfl
theorem D6l (hr:RnOk prog w D g r) (G:GlobOk prog w D g) {ly:Ly} {env:Env} {f:Fm} {n:Nat} {x:Str} {p pos:Pos} {b:BI} {as:List Expr} {Es:List E} {vs:List AV} {H:St} (hn:cName g ly x = some (.lit (.bi b))) (hp:as.all B0z = true) (hc:cL (cE g n ly) as = some Es) (h:evs r f Es c.H = some (vs,H))
  (I:Inv D c) (F:FR D c env ly f) (K:AOk D A f.dep c env) {Q:Value → Shared → Prop} (hQ:∀ c1 us,c1.H = H → Inv D c1 → Stp Option.none c c1 → VRs D.θ c1 vs us → wpAny (model prog w) A (call b.val us) Q Nev c1.s) :
  wpAny (model prog w) A (eval (.Call (.Name x p) as [] pos) env) Q Nev c.s:=by
 refine Call_Name rfl ?_
 rw [B1j env hp,B1r]
 refine wpAny_mono (B7x (cx:=⟨[],[],fun Z=>Option.none,fun Z=>Option.none⟩) (r:=r) I G F hn rfl) (fun u s1 hu=>?_) Mine.idE
 (clear hn; obtain ⟨c1,rfl,hH,I1,S1,r1⟩:=hu)
 subst r1
 rw [← hH] at h
 have ar:=fun fv=>C1w (fv:=fv) hr hp hc h I1 (F.mono S1) (K.step S1 (.inl rfl))
 have fin:∀ fv,wpAny (model prog w) A (evalArgs fv true (as.map fun e=>(false,eval e env)) []) (fun a s=>wpAny (model prog w) A (call b.val ([] ++ a.pos) a.kw) Q Nev s) Nev c1.s:=fun fv=>wpAny_mono (ar fv) (fun a s ha=>by
  obtain ⟨ha,c2,rfl,h2,I2,S2,r2⟩:=ha
  (refine eqQ ha ?_)
  exact hQ c2 a.pos h2 I2 (S1.trans S2 I1 fun Z q=>by k_extra "q") r2) Mine.idE
 k_extra "b" <;> first | exact callWith_builtin (B6l _ _) (fin _) | exact PyProof.Rows.callWith_type (B6l _ _) (fin _)
inductive SP (D:Gd) (c:Cfg) (k:Nat) (it:It) (H:St) (itv:Value) (s:Shared):Prop
 | mk (p:Addr × Addr) (c':Cfg) (hv:itv = .ref p.1) (hs:c'.s = s) (hH:c'.H = H) (I:Inv D c') (S:Stp Option.none c c') (X:ItR D c' k it 0 p c'.s) (Z:∀ a,Zi p a → c.s.heap.get? a = Option.none)
theorem B1y (I:Inv D c) {a:Addr} (h:c.s.heap.get? a = Option.none):¬ Trk c a ∧ D.b0.get? a = Option.none:=by
 refine ⟨fun t=>?_,?_⟩
 ·k_extra "fG"; obtain ⟨o,ho⟩:=I.trkLive t; rw [h] at ho; cases ho
 ·cases q:D.b0.get? a with
  | none=>rfl
  | some o=>have:=I.stat _ _ q; rw [h] at this; k_extra "this"
theorem B9z {c c':Cfg} (I':Inv D c') (S:Stp Option.none c c') {a:Addr} (h:c'.s.heap.get? a = Option.none):c.s.heap.get? a = Option.none:=by
 cases q:c.s.heap.get? a with
 | none=>rfl
 | some o =>
  by_cases t:Trk c a
  ·obtain ⟨o',e⟩:=I'.trkLive (S.trk' t)
   rw [h] at e; k_extra "e"
  ·obtain ⟨o',e⟩:=(S.keep a o q t (by simp)).live
   rw [h] at e; k_extra "e"
theorem B1l {h:Heap} {a:Addr} (q:h.objs.size ≤ a):h.get? a = Option.none:=by
 cases e:h.get? a with
 | none=>rfl
 | some o=>exact absurd (Heap.lt_size e) (Nat.not_lt.mpr q)
theorem D5i (I:Inv D c) (hP:D.P = w.params) {v:AV} {u:Value} {it:It} {k:Nat} (hk:k ≠ 1) (rv:VR D.θ c v u) (h:D8v v c.H = some it):wpAny (model prog w) A (pyIter u) (SP D c k it c.H) Nev c.s:=by
 have fin:∀ o:Obj,o.isFreed = false → ItP c it 0 c.s.heap.objs.size (c.s.heap.push o) → SP D c k it c.H (.ref c.s.heap.objs.size) { c.s with heap:=c.s.heap.push o }:=by
  intro o hf hp
  obtain ⟨I',S'⟩:=B3m (s':={ c.s with heap:=c.s.heap.push o }) I (fun _ _ e=>Heap.get?_push_of_some _ e) I.gens rfl rfl
  have hz:=B1l (h:=c.s.heap) (Nat.le_refl _)
  obtain ⟨t1,t2⟩:=B1y I hz
  refine ⟨(_,_),c.up { c.s with heap:=c.s.heap.push o },rfl,rfl,rfl,I',S',⟨⟨t1,t1,t2,t2⟩,hp.ext S'.ext,k1I (fun z=>absurd z hk) fun z=>rfl⟩,fun a z=>by rcases z with rfl | rfl <;> exact hz⟩
 unfold D8v at h
 split at h
 ·k_extra "h"
  refine D3b rv fun hs t=>?_
  refine wpAny_pyIter_strU (fin _ rfl ⟨hs,t,_,Heap.get?_push_size _ rfl,rfl,rfl⟩)
 ·revert h; revert rv; rename _=>i; intro rv h
  refine C9h rv fun hn=>?_
  k_extra "fG"; split at h
  ·revert h; rename _=>q; revert q; rename _=>l; intro q h
   k_extra "h"
   obtain ⟨_,vs,kk,_,_,ho⟩:=I.list hn q
   exact wpAny_pyIter_list (B1d ho) (fin _ rfl ⟨hn,_,Heap.get?_push_size _ rfl,rfl,rfl⟩)
  ·revert h; rename _=>q; revert q; rename _=>l; intro q h
   k_extra "h"
   obtain ⟨_,vs,kk,_,_,ho⟩:=I.tup hn q
   exact wpAny_pyIter_tuple (B3v ho) (fin _ rfl ⟨hn,_,Heap.get?_push_size _ rfl,rfl,rfl⟩)
  ·k_extra "h"
 ·k_extra "h"
theorem D5w (I:Inv D c) {v:AV} {u:Value} {it:It} (rv:VR D.θ c v u) (h:D8v v c.H = some it) (hd:drw it = true):wpAny (model prog w) A (call (.type "enumerate") [u]) (fun e s1=>wpAny (model prog w) A (pyIter e) (SP D c 1 it c.H) Nev s1) Nev c.s:=by
 have fin:∀ h':Heap,IsEnum h' (c.s.heap.objs.size + 1) c.s.heap.objs.size 0 .none → ItP c it 0 c.s.heap.objs.size h' → (∀ b o,c.s.heap.get? b = some o → h'.get? b = some o) → drw it = true →
   wpAny (model prog w) A (pyIter (.ref (c.s.heap.objs.size + 1))) (SP D c 1 it c.H) Nev { c.s with heap:=h' }:=by
  intro h' he hp kp hr
  refine wpAny_pyIter_enum he ?_
  k_extra "fG"; obtain ⟨I',S'⟩:=B3m (s':={ c.s with heap:=h' }) I kp I.gens rfl rfl
  have hz:=B1l (h:=c.s.heap) (Nat.le_refl _)
  have hz1:=B1l (h:=c.s.heap) (Nat.le_succ c.s.heap.objs.size)
  (have t1:=(B1y I hz).1; have t2:=(B1y I hz).2)
  obtain ⟨t3,t4⟩:=B1y I hz1
  exact ⟨(c.s.heap.objs.size + 1,c.s.heap.objs.size),c.up { c.s with heap:=h' },rfl,rfl,rfl,I',S',⟨⟨t3,t1,t4,t2⟩,hp.ext S'.ext,Nat.succ_ne_self _,hr,_,he⟩,fun a z=>by rcases z with rfl | rfl <;> first | exact hz | exact hz1⟩
 unfold D8v at h
 split at h
 ·k_extra "h"
  refine D3b rv fun hs t=>?_
  exact call_enumerate_str fun h' he hi _ kp=>fin h' he ⟨hs,t,hi⟩ kp rfl
 ·revert h; revert rv; rename _=>i; intro rv h
  refine C9h rv fun hn=>?_
  k_extra "fG"; split at h
  ·revert h; rename _=>q; revert q; rename _=>l; intro q h
   k_extra "h"
   obtain ⟨_,vs,kk,_,_,ho⟩:=I.list hn q
   exact call_enumerate_list (B1d ho) fun h' he hi _ kp=>fin h' he ⟨hn,hi⟩ kp rfl
  ·revert h; rename _=>q; revert q; rename _=>l; intro q h
   k_extra "h"
   obtain ⟨_,vs,kk,_,_,ho⟩:=I.tup hn q
   exact B3a (B3v ho) fun h' he hi _ kp=>fin h' he ⟨hn,hi⟩ kp rfl
  ·k_extra "h"
 ·k_extra "h"
theorem D4k (I:Inv D c) {a b:Int} {R:Addr} {t u v:Tok} {k:Nat} (hk:k ≠ 1) (hR:IsRange c.s.heap R a b 1 t u v) (ha:a.natAbs ≤ lim) (hb:b.natAbs ≤ lim):wpAny (model prog w) A (pyIter (.ref R)) (SP D c k (D7z a b) c.H) Nev c.s:=by
 have hl:lim = 100000:=rfl
 refine wpAny_pyIter_range hR (small_one (by exact om42 ha hl) (by exact om43 ha hl) (by exact om42 hb hl) (by exact om43 hb hl)) ?_
 obtain ⟨I',S'⟩:=B3m (s':={ c.s with heap:=c.s.heap.push { cls:=.type "range_iterator",data:=.fields #[rawInt a,rawInt (Builtin.Range.rangeSize a b 1),rawInt 1] } }) I (fun Z Z e=>Heap.get?_push_of_some _ e) I.gens rfl rfl
 have hz:=B1l (h:=c.s.heap) (Nat.le_refl _)
 (have t1:=(B1y I hz).1; have t2:=(B1y I hz).2)
 refine ⟨(_,_),c.up { c.s with heap:=c.s.heap.push { cls:=.type "range_iterator",data:=.fields #[rawInt a,rawInt (Builtin.Range.rangeSize a b 1),rawInt 1] } },rfl,rfl,rfl,I',S',⟨⟨t1,t1,t2,t2⟩,?_,?_⟩,fun a z=>by rcases z with rfl | rfl <;> exact hz⟩
 ·show IsRangeIter _ _ (a + ((0:Nat):Int) * 1) (((b - a).toNat:Int) - ((0:Nat):Int)) 1
  have e1:a + ((0:Nat):Int) * 1 = a:=by simp
  have e2:(((b - a).toNat:Int) - ((0:Nat):Int)) = Builtin.Range.rangeSize a b 1:=by
   rw [rangeSize_one]
   split <;> (first | exact om166 (by assumption) | exact om167 (by assumption) | omega)
  simp only [e1,e2]
  exact Heap.get?_push_size _ rfl
 ·exact k1I (fun z=>absurd z hk) fun z=>rfl
theorem evs1 {f:Fm} {e:E} {H H':St} {v:AV} (h:r.ev e f H = some (v,H')):evs r f [e] H = some ([v],H'):=by
 show on2 (r.ev e f H) (fun v H=>some ([v],H)) = _
 (refine eqQ h ?_); rfl
theorem SP.after {c₁:Cfg} {k:Nat} {it:It} {H:St} {itv:Value} {s:Shared} (S:Stp Option.none c c₁) (I:Inv D c₁) (h:SP D c₁ k it H itv s):SP D c k it H itv s:=by
 obtain ⟨p,c',a,b,d,i,st,x,z⟩:=h
 exact ⟨p,c',a,b,d,i,S.trans st I (fun Z q=>by k_extra "q"),x,fun a q=>B9z I S (z a q)⟩
theorem D1v (hr:RnOk prog w D g r) (hP:D.P = w.params) (G:GlobOk prog w D g) {ly:Ly} {env:Env} {f:Fm} {n:Nat} {e:Expr} {k:Nat} {E':E} {it:It} {H:St} (hc:F0o g ly (cE g n ly) e = some (k,E')) (h:C4j r k E' f c.H = some (it,H))
  (I:Inv D c) (F:FR D c env ly f) (K:AOk D A f.dep c env) :
  (∀ x,foldedSetIterable e env x = pure x) ∧ wpAny (model prog w) A (eval e env) (fun x s1=>wpAny (model prog w) A (pyIter x) (SP D c k it H) Nev s1) Nev c.s:=by
 have plain0:∀ {E1:E} {H:St},cE g n ly e = some E1 → C4j r 0 E1 f c.H = some (it,H) → wpAny (model prog w) A (eval e env) (fun x s1=>wpAny (model prog w) A (pyIter x) (SP D c 0 it H) Nev s1) Nev c.s:=by
  intro E1 H hE h
  refine B2n (show F1g r E1 f c.H = some (it,H) from h) fun p0 p1 h1 h=>onP h fun it' h2 h=>B0r h fun z1 z2=>?_
  (refine eqQ z1 ?_; refine eqQ z2 ?_)
  refine wpAny_mono (hr.ev ly env f c A n e E1 p0 p1 hE h1 I F K) (fun u s1 hu=>?_) Mine.idE
  obtain ⟨c1,rfl,hH,I1,S1,r1⟩:=hu
  rw [← hH] at h2 ⊢
  exact wpAny_mono (D5i I1 hP (by decide) r1 h2) (fun Z Z h=>h.after S1 I1) Mine.idE
 have other:∀ {e:Expr},B0z e = true → ∀ x,foldedSetIterable e env x = pure x:=by
  intro e he x
  k_extra "e" <;> first | rfl | exact absurd he Bool.false_ne_true
 refine B1i hc (fun p ep hc=>?_) fun Z hc=>D6s hc fun hg E1 hE hc=>B0r hc fun z1 z2=>?_
 ·(refine x3a2 (C5a ep) fun x px q e93 hn=>?_; (clear ep; subst e93))
  obtain ⟨b,as⟩:=p
  refine ⟨fun x=>rfl,?_⟩
  cases b with
  | range =>
   refine F1a hc fun b eb hg b' hb hc=>B0r hc fun z1 z2=>?_
   subst z1 z2
   have eas:as = [b]:=B0c eb
   refine eqQ eas ?_
   refine B2n h fun y0 y1 h1 h=>onP h fun z hz h=>prB h fun hle h=>B0r h fun z1 z2=>?_
   (refine eqQ z1 ?_; refine eqQ z2 ?_)
   refine D6l hr G hn (by (refine eqQ List.all_cons ?_; refine eqQ hg ?_); rfl) (by show (cE g n ly b >>= _) = _; (refine eqQ hb ?_); rfl) (evs1 (v:=y0) (H':=y1) h1) I F K fun c1 us hH I1 S1 rs=>?_
   refine vC rs fun Z Z r1 rs=>?_
   ·refine vN rs ?_
    refine uInt hz r1 fun t=>?_
    refine call_range_1 ?_
    (refine eqR hH ?_)
    obtain ⟨I2,S2⟩:=B3m (s':={ c1.s with heap:=c1.s.heap.push { cls:=.type "range",data:=.fields #[.int 0 c1.s.toks,.int z t,.int 1 (c1.s.toks + 1)] },toks:=c1.s.toks + 1 + 1 }) I1 (fun Z Z e=>Heap.get?_push_of_some _ e) I1.gens rfl rfl
    exact wpAny_mono (D4k I2 (by decide) (Heap.get?_push_size _ rfl) (by decide) (nYY hle)) (fun Z Z h=>(h.after S2 I2).after S1 I1) Mine.idE
  | enumerate =>
   refine F1a hc fun a ea hg a' ha hc=>B0r hc fun z1 z2=>?_
   (clear hc; (clear hc; (clear hc; subst z1 z2)))
   have eas:as = [a]:=B0c ea
   refine eqQ eas ?_
   refine B2n (show srcD r E' f c.H = some (it,H) from h) fun q0 q1 hq h=>prB h fun hdr h=>B0r h fun w1 w2=>?_
   (clear h; subst w1 w2)
   refine B2n (show F1g r E' f c.H = some (it,H) from hq) fun y0 y1 h1 h=>onP h fun it' h2 h=>B0r h fun z1 z2=>?_
   rw [z1] at hdr
   (refine eqQ z1 ?_; refine eqQ z2 ?_)
   refine D6l hr G hn (by (refine eqQ List.all_cons ?_; refine eqQ hg ?_); rfl) (by show (cE g n ly a >>= _) = _; (refine eqQ ha ?_); rfl) (evs1 (v:=y0) (H':=y1) h1) I F K fun c1 us hH I1 S1 rs=>?_
   refine vC rs fun Z Z r1 rs=>?_
   ·refine vN rs ?_
    rw [← hH] at h2 ⊢
    exact wpAny_mono (D5w I1 r1 h2 hdr) (fun e s1 h=>wpAny_mono h (fun Z Z h=>h.after S1 I1) Mine.idE) Mine.idE
  | _ =>
   k_extra "fG"; refine B0a hc fun E1 hE hc=>B0r hc fun z1 z2=>?_
   (clear hc; (clear hc; (clear hc; subst z1 z2)))
   exact plain0 hE h
 ·(clear hc; (clear hc; (clear hc; subst z1 z2)))
  exact ⟨other hg,plain0 hE h⟩
end
end Ab
end
section
open PySem PySem.W PyProof.Rows PySem.Calls PySem.SeqAt
namespace Ab
theorem B0x (x:Str) (k:NameKind) (r:List (Str × NameKind)):B2i ((x,k) :: r) = if (k == .cell || k == .free) = true then x :: B2i r else B2i r:=by
 unfold B2i
 (refine eqQ List.filter_cons ?_)
 split <;> rfl
theorem B3u {x:Str} {r:List (Str × NameKind)} (h:¬ (r.map (·.1)).contains x = true):r.lookup x = Option.none:=by
 induction r with
 | nil=>rfl
 | cons p r ih =>
  obtain ⟨y,k⟩:=p
  simp only [List.map_cons,List.contains_cons,Bool.or_eq_true,not_or] at h
  simp only [List.lookup_cons]
  have:(x == y) = false:=by simpa using h.1
  (refine eqQ this ?_)
  exact ih h.2
section
variable {prog:Program} {w:World} {A:Around} {D:Gd} {c:Cfg} {cx:Cx} {g:G} {r:Rn}
noncomputable def CelR (c:Cfg) (names:List (Str × NameKind)) (cs:List Nat) (cells ocells:List (Str × Addr)):Prop :=
 ∀ x j i,idxS x (B2i names) = some j → nth? cs j = some i → i < c.H.n ∧ ((names.lookup x = some .cell ∧ cells.lookup x = some (c.mu i)) ∨ (names.lookup x = some .free ∧ ocells.lookup x = some (c.mu i)))
theorem B3z {ly:Ly} {f:Fm} {ocells:List (Str × Addr)} (fn:Str × NameKind → List (Str × Addr) → Sem (ForInStep (List (Str × Addr))))
  (hf : ∀ name kind cells, fn (name, kind) cells = if kind == .cell then (do let a ← alloc { cls := .type "cell", data := .cell Option.none }; pure (.yield ((name, a) :: cells))) else pure (.yield cells)) :
  ∀ (names:List (Str × NameKind)) {l:List (Option Nat)} {c:Cfg} {acc:List (Str × Addr)} {cs:List Nat} {H':St},C3u ly names = some l → C4y f l c.H = some (cs,H') → Inv D c →
   (∀ x j i,idxS x ly.cels = some j → nth? f.cel j = some i → i < c.H.n ∧ ocells.lookup x = some (c.mu i)) → B6t (names.map (·.1)) = true →
   wpAny (model prog w) A (forIn names acc fn) (fun cells s=>∃ c':Cfg,c'.s = s ∧ c'.H = H' ∧ Inv D c' ∧ Stp Option.none c c' ∧ CelR c' names cs cells ocells ∧ ∀ x,names.lookup x ≠ some .cell → cells.lookup x = acc.lookup x) Nev c.s
 | [],l,c,acc,cs,H',hc,h,I,ho,hn=>by
  k_extra "hc"; refine B0j h ?_
  exact wpAny_pure ⟨c,rfl,rfl,I,Stp.refl _ _,(by intro x j i h; k_extra "h"),fun _ _=>rfl⟩
 | (x,k) :: r,l,c,acc,cs,H',hc,h,I,ho,hn=>by
  simp only [List.forIn_cons,hf]
  replace hn:=Bool.and_eq_true_iff.mp hn; rw [Bool.not_eq_true'] at hn
  have hx:r.lookup x = Option.none:=B3u (by (refine eqQ hn.1 ?_); simp)
  have lk:∀ y,y ≠ x → ((x,k) :: r).lookup y = r.lookup y:=fun y q=>by
   simp only [List.lookup_cons]
   have:(y == x) = false:=by simpa using q
   (exact eqQ this rfl)
  have lkx:((x,k) :: r).lookup x = some k:=by simp only [List.lookup_cons]; simp
  by_cases hk:k = .cell
  ·subst hk
   (refine eqQ (if_pos (show (NameKind.cell == NameKind.cell) = true from rfl)) ?_)
   dsimp only [C3u] at hc; simp only [Option.bind_eq_bind,Option.bind_eq_some_iff,Option.some.injEq] at hc
   (refine B0o hc fun l' hl e92=>?_; (clear hc; subst e92))
   refine B2n h fun cs' H1 h1 h=>?_
   refine B0j h ?_
   refine wpAny_bind (wpAny_bind (wpAny_alloc (wpAny_pure ?_)))
   have hz:=B1l (h:=c.s.heap) (Nat.le_refl _)
   obtain ⟨I1,S1⟩:=C4d (s':={ c.s with heap:=c.s.heap.push { cls:=.type "cell",data:=.cell Option.none } }) I (a:=c.s.heap.objs.size) (e:=[(c.s.heap.objs.size,{ cls:=.type "cell",data:=.cell Option.none })]) (o:=.cell Option.none)
    (fun p hp=>by (refine eqQ (List.mem_singleton.mp hp) ?_); exact hz) (by simp) (fun p hp=>by (refine eqQ (List.mem_singleton.mp hp) ?_); exact Heap.get?_push_size _ rfl) (fun _ _ e=>Heap.get?_push_of_some _ e)
    ⟨_,Option.none,rfl,rfl,fun x hx=>by k_extra "hx"⟩ I.gens rfl rfl
   refine wpAny_mono (B3z fn hf r (c:=c.add c.s.heap.objs.size [(c.s.heap.objs.size,{ cls:=.type "cell",data:=.cell Option.none })] (.cell Option.none) { c.s with heap:=c.s.heap.push { cls:=.type "cell",data:=.cell Option.none } }) hl h1 I1
    (fun y j i a b=>let ⟨q1,q2⟩:=ho y j i a b; ⟨Nat.lt_of_lt_of_le q1 S1.n,by (refine eqQ (S1.mu i q1) ?_); exact q2⟩) hn.2) (fun cells s hs=>?_) Mine.idE
   (refine D6w hs fun c' e91 e92 I2 S2 R2 K2=>?_; refine eqR e91 ?_; refine eqR e92 ?_)
   refine ⟨c',rfl,rfl,I2,S1.trans S2 I1 (fun _ q=>by k_extra "q"),fun y j i hy hi=>?_,fun y hy=>?_⟩
   ·rw [B0x,if_pos (by rfl)] at hy
    dsimp only [idxS] at hy
    split at hy
    ·revert hy; rename _=>q; intro hy
     k_extra "hy"
     refine B0g hi ?_
     subst q
     have hlt:c.H.n < (c.add c.s.heap.objs.size [(c.s.heap.objs.size,{ cls:=.type "cell",data:=.cell Option.none })] (.cell Option.none) { c.s with heap:=c.s.heap.push { cls:=.type "cell",data:=.cell Option.none } }).H.n:=Nat.lt_succ_self _
     refine ⟨Nat.lt_of_lt_of_le hlt S2.n,.inl ⟨lkx,?_⟩⟩
     simp only [K2 y (by (refine eqQ hx ?_); simp),S2.mu _ hlt,List.lookup_cons]
     simp
    ·revert hy; rename _=>q; intro hy
     (refine B0o (Option.map_eq_some_iff.mp hy) fun j' hj' e92=>?_; (clear hy; subst e92))
     have:=R2 y j' i hj' hi
     (refine eqQ (lk y q) ?_)
     exact this
   ·by_cases q:y = x
    ·(k_extra "fG"; clear hx; subst q); exact absurd lkx hy
    ·rw [lk y q] at hy
     simp only [K2 y hy,List.lookup_cons]
     have:(y == x) = false:=by simpa using q
     (exact eqQ this rfl)
  ·have hkb:(k == NameKind.cell) = false:=by simpa using hk
   (refine eqQ hkb ?_; refine eqQ (if_neg Bool.false_ne_true) ?_)
   refine wpAny_bind (wpAny_pure ?_)
   by_cases hfr:k = .free
   ·(clear hkb; subst hfr)
    dsimp only [C3u] at hc; simp only [Option.bind_eq_bind,Option.bind_eq_some_iff,Option.some.injEq] at hc
    obtain ⟨j0,hj0,l',hl,rfl⟩:=hc
    refine onP h fun id hid h=>?_
    refine B2n h fun cs' H1 h1 h=>?_
    ·refine B0j h ?_
     refine wpAny_mono (B3z fn hf r hl h1 I ho hn.2) (fun cells s hs=>?_) Mine.idE
     (refine D6w hs fun c' e91 e92 I2 S2 R2 K2=>?_; refine eqR e91 ?_; refine eqR e92 ?_)
     refine ⟨c',rfl,rfl,I2,S2,fun y j i hy hi=>?_,fun y hy=>?_⟩
     ·rw [B0x,if_pos (by rfl)] at hy
      dsimp only [idxS] at hy
      split at hy
      ·revert hy; rename _=>q; intro hy
       (clear hn; k_extra "hy")
       refine B0g hi ?_
       subst q
       (have q1:=(ho y j0 _ hj0 hid).1; have q2:=(ho y j0 _ hj0 hid).2)
       exact ⟨Nat.lt_of_lt_of_le q1 S2.n,.inr ⟨lkx,by (refine eqQ (S2.mu _ q1) ?_); exact q2⟩⟩
      ·revert hy; rename _=>q; intro hy
       (refine B0o (Option.map_eq_some_iff.mp hy) fun j' hj' e92=>?_; (clear hy; subst e92))
       have:=R2 y j' i hj' hi
       (refine eqQ (lk y q) ?_)
       exact this
     ·by_cases q:y = x
      ·(clear hy; subst q); exact K2 y (by (refine eqQ hx ?_); simp)
      ·rw [lk y q] at hy
       exact K2 y hy
   ·have hc':C3u ly r = some l:=by
     k_extra "k" <;> first | exact hc | exact absurd rfl hk | exact absurd rfl hfr
    refine wpAny_mono (B3z fn hf r hc' h I ho hn.2) (fun cells s hs=>?_) Mine.idE
    (refine D6w hs fun c' e91 e92 I2 S2 R2 K2=>?_; refine eqR e91 ?_; refine eqR e92 ?_)
    refine ⟨c',rfl,rfl,I2,S2,fun y j i hy hi=>?_,fun y hy=>?_⟩
    ·rw [B0x,if_neg (by k_extra "k" <;> simp_all)] at hy
     have:=R2 y j i hy hi
     by_cases q:y = x
     ·(clear hn; subst q)
      rw [hx] at this
      k_extra "fG"; rcases this with ⟨_,⟨z,_⟩ | ⟨z,_⟩⟩ <;> k_extra "z"
     ·(refine eqQ (lk y q) ?_)
      exact this
    ·by_cases q:y = x
     ·(clear hy; (clear hn; subst q)); exact K2 y (by (refine eqQ hx ?_); simp)
     ·rw [lk y q] at hy
      exact K2 y hy
theorem B4k {env:Env}:∀ (names:List (Str × NameKind)) (acc:List (Str × Addr)),(∀ x,(x,NameKind.free) ∈ names → ∃ a,env.cells.lookup x = some a) → B6t (names.map (·.1)) = true →
  ∃ cl, (forIn names acc fun x cs => do
   if x.2 == .free then pure (ForInStep.yield ((x.1,← cellOf env x.1) :: cs)) else pure (ForInStep.yield cs):Sem (List (Str × Addr))) = pure cl ∧ (∀ x,names.lookup x = some .free → cl.lookup x = env.cells.lookup x) ∧ ∀ x,names.lookup x ≠ some .free → cl.lookup x = acc.lookup x
 | [],acc,J,Y=>⟨acc,rfl,(by intro x h; k_extra "h"),fun Z Z=>rfl⟩
 | (x,k) :: r,acc,h,hn=>by
  replace hn:=Bool.and_eq_true_iff.mp hn; rw [Bool.not_eq_true'] at hn
  have hx:r.lookup x = Option.none:=B3u (by (refine eqQ hn.1 ?_); simp)
  have lk:∀ y,y ≠ x → ((x,k) :: r).lookup y = r.lookup y:=fun y q=>by
   simp only [List.lookup_cons]
   have:(y == x) = false:=by simpa using q
   (exact eqQ this rfl)
  have lkx:((x,k) :: r).lookup x = some k:=by simp only [List.lookup_cons]; simp
  by_cases hk:k = .free
  ·subst hk
   obtain ⟨a,ha⟩:=h x (.head _)
   (refine B8y (B4k r ((x,a) :: acc) (fun y hy=>h y (.tail _ hy)) hn.2) fun cl e h1 h2=>?_)
   refine ⟨cl,?_,fun y hy=>?_,fun y hy=>?_⟩
   ·simp only [List.forIn_cons,← e]
    simp only [cellOf,ha]
    rfl
   ·by_cases q:y = x
    ·(clear hy; subst q)
     simp only [h2 y (by (refine eqQ hx ?_); simp),ha,List.lookup_cons]
     simp
    ·rw [lk y q] at hy; exact h1 y hy
   ·by_cases q:y = x
    ·subst q; exact absurd lkx hy
    ·rw [lk y q] at hy
     simp only [h2 y hy,List.lookup_cons]
     have:(y == x) = false:=by simpa using q
     (exact eqQ this rfl)
  ·(refine B8y (B4k r acc (fun y hy=>h y (.tail _ hy)) hn.2) fun cl e h1 h2=>?_)
   have hkb:(k == NameKind.free) = false:=by simpa using hk
   refine ⟨cl,?_,fun y hy=>?_,fun y hy=>?_⟩
   ·simp only [List.forIn_cons,← e]
    simp only [hkb]
    rfl
   ·by_cases q:y = x
    ·subst q; rw [lkx] at hy; exact absurd (oYY hy) hk
    ·rw [lk y q] at hy; exact h1 y hy
   ·by_cases q:y = x
    ·(clear hy; subst q); exact h2 y (by (refine eqQ hx ?_); simp)
    ·rw [lk y q] at hy; exact h2 y hy
theorem B8o {env:Env} {scope:Scope} (h:∀ x,(x,NameKind.free) ∈ scope.names → ∃ a,env.cells.lookup x = some a) (hn:B6t (scope.names.map (·.1)) = true) :
  ∃ cl,closureFor scope env = pure cl ∧ (∀ x,scope.names.lookup x = some .free → cl.lookup x = env.cells.lookup x) ∧ ∀ x,scope.names.lookup x ≠ some .free → cl.lookup x = Option.none:=by
 (refine B8y (B4k scope.names [] h hn) fun cl e h1 h2=>?_)
 refine ⟨cl,?_,h1,h2⟩
 show (forIn scope.names [] (fun x cs => do
   if x.2 == .free then pure (ForInStep.yield ((x.1,← cellOf env x.1) :: cs)) else pure (ForInStep.yield cs)) >>= fun z=>(pure z:Sem (List (Str × Addr)))) = pure cl
 (refine eqQ e ?_)
 rfl
end
end Ab
end
section
open PySem PySem.W PyProof.Rows PySem.Calls PySem.SeqAt
namespace Ab
section
variable {prog:Program} {w:World} {A:Around} {D:Gd} {c:Cfg} {cx:Cx} {g:G} {r:Rn}
noncomputable abbrev tstF (env : Env) : Expr → Bool → Sem (ForInStep Bool) := fun c r => if r = true then do let ok ← isTrue c env (eval c env); pure (ForInStep.yield ok) else pure (ForInStep.yield r)
theorem B5l (env:Env):∀ ifs:List Expr,forIn ifs false (tstF env) = (pure false:Sem Bool)
 | []=>rfl
 | e :: r=>by
  rw [List.forIn_cons]
  (exact eqR (B5l env r) rfl)
theorem B7n (hr:RnOk prog w D g r) {ly:Ly} {env:Env} {f:Fm} {n:Nat}:∀ {as:List Expr} {Es:List E} {c:Cfg} {b:Bool} {H:St},cL (cE g n ly) as = some Es → F1y r f Es c.H = some (b,H) → Inv D c → FR D c env ly f → AOk D A f.dep c env →
  wpAny (model prog w) A (forIn as true (tstF env)) (PB D c b H) Nev c.s
 | [],Es,c,b,H,hc,h,I,F,K=>by
  k_extra "hc"; refine B0j h ?_
  exact wpAny_tests_nil ⟨rfl,PC.same I⟩
 | e :: as,Es,c,b,H,hc,h,I,F,K=>by
  dsimp only [cL] at hc; simp only [Option.bind_eq_bind,Option.bind_eq_some_iff,Option.some.injEq] at hc
  obtain ⟨E',hE,Es',hEs,rfl⟩:=hc
  rw [List.forIn_cons]
  refine tsP h (fun H1 h1 h=>?_) fun H1 h1 h=>?_
  ·refine wpAny_bind (wpAny_bind (wpAny_mono (hr.ts ly env f c A n e E' _ H1 hE h1 I F K) (fun q s1 hu=>wpAny_pure ?_) Mine.idE))
   ((clear h1; obtain ⟨rfl,c1,e98,rfl,I1,S1⟩:=hu); refine eqR e98 ?_)
   exact wpAny_mono (B7n hr hEs h I1 (F.mono S1) (K.step S1 (.inl rfl))) (fun q s2 ⟨e,p⟩=>⟨e,p.after S1 I1⟩) Mine.idE
  ·refine B0j h ?_
   refine wpAny_bind (wpAny_bind (wpAny_mono (hr.ts ly env f c A n e E' _ _ hE h1 I F K) (fun q s1 hu=>wpAny_pure ?_) Mine.idE))
   obtain ⟨rfl,p⟩:=hu
   dsimp only
   (refine eqQ (show forIn as false (fun c r => if r = true then do let ok ← isTrue c env (eval c env); pure (ForInStep.yield ok) else pure (ForInStep.yield r)) = (pure false : Sem Bool) from B5l env as) ?_)
   exact wpAny_pure ⟨rfl,p⟩
theorem D4h {k:Nat} {it:It} {i:Nat} {p:Addr × Addr} {s:Shared} (X:ItR D c k it i p s) {Q:Value → Shared → Prop} (h:Q (.ref p.1) s):wpAny (model prog w) A (pyIter (.ref p.1)) Q Nev s:=by
 (refine C5f X fun Z hp he=>?_)
 refine k1P he (fun z he=>?_) fun z he=>?_
 ·obtain ⟨_,_,old,hE⟩:=he
  exact wpAny_pyIter_enum hE h
 ·rw [he] at h ⊢
  k_extra "fG"; cases it with
  | lst id=>exact wpAny_pyIter_listiter hp.2 h
  | tup id=>exact wpAny_pyIter_tupleiter hp.2 h
  | str sq =>
   obtain ⟨_,t,hs⟩:=hp
   cases hA:(⟨sq.toArray⟩:Str).cps.all (· < 128) with
   | true =>
    have hT:strIterType ⟨sq.toArray⟩ = "str_ascii_iterator" := by unfold strIterType; (exact eqQ (if_pos hA) rfl)
    rw [hT] at hs
    exact wpAny_pyIter_striter_ascii hs h
   | false =>
    have hT:strIterType ⟨sq.toArray⟩ = "str_iterator" := by unfold strIterType; rw [if_neg (by rw [hA]; simp)]
    rw [hT] at hs
    exact wpAny_pyIter_striter_wide hs h
  | rng b n=>exact wpAny_pyIter_rangeiter hp h
theorem C0a {R:Result → Shared → Prop} {elt target iter:Expr} {ifs:List Expr} {scope:Scope} {pos:Pos} {it acc:Value} {env:Env} {s:Shared} (I:Nat → Shared → Prop)
  (turn:∀ n s,I n s → wpAny (model prog w) A (pyNext it) (fun r s₁=>match r with
   | Option.none=>R (.ok .next) s₁
   | some v=>wpAny (model prog w) A (letOwnedTupleGo target it v) (fun Z s₁'=>wpAny (model prog w) A (assign target env v) (fun Z s₂ =>
     wpAny (model prog w) A (forIn ifs true (tstF env)) (fun ok s₃ =>
      if ok = true then wpAny (model prog w) A (eval elt env) (fun x s₄ =>
       wpAny (model prog w) A (call (.builtin "list.append") [acc,x]) (fun Z s₅=>∃ m,m < n ∧ I m s₅) Nev s₄) Nev s₃
      else ∃ m,m < n ∧ I m s₃) Nev s₂) Nev s₁') Nev s₁) Nev s)
  (n:Nat) (h:I n s) :
  codeAny (model prog w) A (.compLoop (.ListComp elt [⟨target,iter,ifs,0⟩] scope pos) 0 it acc env) R s:=by
 refine codeAny_loop rfl I (fun n s hI=>?_) n h
 show wpAny _ A ((compTurn (.ListComp elt [⟨target, iter, ifs, 0⟩] scope pos) 0 it acc env).onRaise (fun x => do noteFrame x env; theTreesLotGoes x)) _ _ s
 refine wpAny_noted ?_
 rw [compTurn_list]
 refine wpAny_bind (wpAny_standAt (wpAny_bind (wpAny_mono (turn n s hI) (fun r s₁ h₁=>?_) fun Z Z h'=>h'.elim)))
 cases r with
 | none=>exact wpAny_pure h₁
 | some v =>
  refine wpAny_bind (wpAny_mono h₁ (fun Z s₁' h₁'=>?_) fun Z Z h'=>h'.elim)
  refine wpAny_bind (wpAny_mono h₁' (fun Z s₂ h₂=>wpAny_bind (wpAny_mono h₂ (fun ok s₃ h₃=>?_) fun Z Z h'=>h'.elim)) fun Z Z h'=>h'.elim)
  cases ok with
  | false=>exact wpAny_pure ⟨rfl,h₃⟩
  | true =>
   exact wpAny_bind (wpAny_bind (wpAny_mono h₃ (fun x s₄ h₄=>wpAny_bind (wpAny_mono h₄ (fun Z s₅ h₅=>wpAny_pure (wpAny_pure ⟨rfl,h₅⟩)) fun Z Z h'=>h'.elim)) fun Z Z h'=>h'.elim))
inductive CmpI (D:Gd) (r:Rn) (elt':E) (t:Tg) (k:Nat) (ifs':List E) (i0:Nat) (it:It) (H:St) (dep:Nat) (cenv:Env) (ly2:Ly) (c:Cfg) (p:Addr × Addr) (m:Nat) (s:Shared):Prop
 | mk (i:Nat) (f1:Fm) (c1:Cfg) (hs:c1.s = s) (h:cpT r elt' t k ifs' i0 it m i f1 c1.H = some H) (hd:f1.dep = dep) (I:Inv D c1) (S:StpD (Zf p cenv.locals) c c1) (F:FR D c1 cenv ly2 f1) (X:ItR D c1 k it i p c1.s)
theorem D5d (hr:RnOk prog w D g r) (hP:D.P = w.params) {c0 c:Cfg} {env cenv:Env} {ly ly2:Ly} {f:Fm} {elt target iter:Expr} {ifs:List Expr} {scope:Scope} {pos:Pos} {n k:Nat} {it:It} {p:Addr × Addr} {elt':E} {t:Tg} {ifs':List E} {i0:Nat} {H:St}
  (helt:cE g n ly2 elt = some elt') (ht:cTg ly2 target = some t) (hifs:cL (cE g n ly2) ifs = some ifs') {dep:Nat} (K:AOk D A dep c0 cenv) (S0:Stp Option.none c0 c) (I0:Inv D c) (hz:∀ a,Zf p cenv.locals a → c0.s.heap.get? a = Option.none) (hacc:i0 < c.H.n) :
  ∀ {m i:Nat} {c1:Cfg},cpT r elt' t k ifs' i0 it m i f c1.H = some H → f.dep = dep → Inv D c1 → StpD (Zf p cenv.locals) c c1 → FR D c1 cenv ly2 f → ItR D c1 k it i p c1.s →
   codeAny (model prog w) A (.compLoop (.ListComp elt [⟨target,iter,ifs,0⟩] scope pos) 0 (.ref p.1) (.ref (c.mu i0)) cenv) (fun r s=>r = .ok .next ∧ CP D c0 i0 H (.ref (c.mu i0)) cenv.locals s) c1.s:=by
 intro m i c1 h hd I1 S1 F1 X1
 refine C0a (CmpI D r elt' t k ifs' i0 it H dep cenv ly2 c p) ?_ m ⟨i,f,c1,rfl,h,hd,I1,S1,F1,X1⟩
 clear h hd I1 S1 F1 X1
 rintro m s ⟨i,f1,c1,rfl,h,hd,I1,S1,F1,X1⟩
 have stp:∀ {c2:Cfg},StpE (Zf p cenv.locals) c c2 → Stp Option.none c0 c2:=fun T=>StpE.close S0 T I0 (fun a z=>.inl (hz a z)) (fun L q=>by k_extra "q")
 cases m with
 | zero=>k_extra "h"
 | succ m =>
  have hh:=K.handled
  refine onP h fun o hi h=>B1i h (fun v ev h=>onP h fun pf hp h=>onP h fun q hq h=>?_) fun eo h=>?_
  ·refine (let fE:=_; let fQ:=_; (?_:wpAny _ _ _ fQ fE _))
   replace hi:=ev ▸ hi
   k_extra "fG"; obtain ⟨f2,H2⟩:=pf
   obtain ⟨qb,H3⟩:=q
   (have hd2:=(B7l (prog:=prog) (w:=w) I1 hP hh F1 X1 ht hi hp).1; have ht:=(B7l (prog:=prog) (w:=w) I1 hP hh F1 X1 ht hi hp).2)
   refine wpAny_mono ht (fun o s1 ho=>?_) Mine.idE
   (clear ht; (clear hp; obtain ⟨u,rfl,ho⟩:=ho))
   refine wpAny_mono ho (fun Z s2 h2=>wpAny_mono h2 (fun Z s3 h3=>?_) Mine.idE) Mine.idE
   ((clear ht; (clear ho; (clear h2; obtain ⟨c2,e98,rfl,I2,S2,F2,X2⟩:=h3))); refine eqR e98 ?_)
   have S2':=S1.trans S2 I1
   k_extra "fG"; have K2:AOk D A f2.dep c2 cenv:=by (refine eqQ hd2 ?_; refine eqQ hd ?_); exact K.step (stp S2'.e) (.inl rfl)
   cases qb with
   | true =>
    refine B2n h fun w0 w1 h4 h=>onP h fun l hl h=>prB h fun hle h=>?_
    rw [B4b] at h
    refine wpAny_mono (B7n hr hifs hq I2 F2 K2) (fun ok s3 h3=>?_) Mine.idE
    obtain ⟨rfl,c3,rfl,e3,I3,S3⟩:=h3
    (refine eqQ (if_pos rfl) ?_)
    have F3:=F2.mono S3
    refine wpAny_mono (hr.ev ly2 cenv f2 c3 A n elt elt' w0 w1 helt (by (refine eqQ e3 ?_); exact h4) I3 F3 (K2.step S3 (.inl rfl))) (fun u s4 h4=>?_) Mine.idE
    obtain ⟨c4,rfl,e4',I4,S4,r4⟩:=h4
    have F4:=F3.mono S4
    rw [← e4'] at hl h
    have q:=B0w hl
    have e4:Ext c c4:=⟨Nat.le_trans S2'.n (Nat.le_trans S3.n S4.n),fun i hi=>by
     (refine eqQ (S4.mu i (Nat.lt_of_lt_of_le hi (Nat.le_trans S2'.n S3.n))) ?_; refine eqQ (S3.mu i (Nat.lt_of_lt_of_le hi S2'.n)) ?_; exact eqQ (S2'.mu i hi) rfl)⟩
    (refine eqR (e4.mu i0 hacc) ?_)
    refine wpAny_mono (C0g I4 (Nat.lt_of_lt_of_le hacc e4.n) q r4 (leL hle)) (fun u5 s5 h5=>?_) Mine.idE
    obtain ⟨c5,rfl,h5,I5,S5,_⟩:=h5
    have nv:∀ {ca cb:Cfg},Stp Option.none ca cb → Inv D cb → StpD (Zf p cenv.locals) ca cb:=fun S I=>S.d I (fun L q=>by k_extra "q")
    refine ⟨m,Nat.lt_succ_self m,i + 1,f2,c5,rfl,by (refine eqQ h5 ?_); exact h,hd2.trans hd,I5,((S2'.trans (nv S3 I3) I2).trans (nv S4 I4) I3).trans (nv S5 I5) I4,F4.mono S5,?_⟩
    have n2:=F2.nsx
    have n3:=F3.nsx
    have n4:=F4.nsx
    exact ((X2.step (F2.weak S3) (n2 _ rfl)).step (F3.weak S4) (n3 _ rfl)).step (F4.weak S5) (n4 _ rfl)
   | false =>
    refine wpAny_mono (B7n hr hifs hq I2 F2 K2) (fun ok s3 h3=>?_) Mine.idE
    ((clear hq; obtain ⟨rfl,c3,e98,rfl,I3,S3⟩:=h3); refine eqR e98 ?_)
    (refine eqQ (if_neg Bool.false_ne_true) ?_)
    have n2:=F2.nsx
    exact ⟨m,Nat.lt_succ_self m,i + 1,f2,c3,rfl,h,hd2.trans hd,I3,S2'.trans (S3.d I3 (fun L q=>by k_extra "q")) I2,F2.mono S3,X2.step (F2.weak S3) (n2 _ rfl)⟩
  ·replace hi:=eo ▸ hi
   refine eqR (oYY h) ?_
   refine wpAny_mono (D2u I1 hP hh X1 hi) (fun o s1 ho=>?_) Mine.idE
   k_extra "fG"; obtain ⟨rfl,c2,rfl,h2,I2,S2,F2⟩:=ho
   have S2':=S1.transE (S2.weak fun a z=>.inl z) I1
   have F2:=F2 F1
   (refine B0o F2.ns fun mm hm Z=>?_)
   exact ⟨rfl,c2,rfl,h2,I2,stp S2',by (exact eqQ (S2'.mu i0 hacc) rfl),Nat.lt_of_lt_of_le hacc S2'.n,⟨mm,hm⟩,hz _ (.inr rfl),F2.unt⟩
end
end Ab
end
section
open PySem PySem.W PyProof.Rows PySem.Calls PySem.SeqAt
namespace Ab
section
variable {prog:Program} {w:World} {A:Around} {D:Gd} {c:Cfg} {cx:Cx} {g:G} {r:Rn}
theorem B2x {ly:Ly} {f:Fm}:∀ {names:List (Str × NameKind)} {l:List (Option Nat)} {H:St} {x:List Nat × St},C3u ly names = some l → C4y f l H = some x → ∀ y,(y,NameKind.free) ∈ names → ∃ j i,idxS y ly.cels = some j ∧ nth? f.cel j = some i
 | [],_,_,_,_,_,y,hy=>by (first | exact noP hy | exact fT hy | exact absurd hy (fun e=>nomatch e))
 | (z,k) :: names,l,H,x,hc,h,y,hy=>by
  k_extra "fG"; by_cases hk:k = .cell
  ·k_extra "fG"; subst hk
   dsimp only [C3u] at hc; simp only [Option.bind_eq_bind,Option.bind_eq_some_iff,Option.some.injEq] at hc
   obtain ⟨l',hl,rfl⟩:=hc
   refine B2n h fun cs' H1 h1 h=>?_
   rcases List.mem_cons.mp hy with q | q
   ·(first | exact noP q | exact fT q | exact absurd q (fun e=>nomatch e))
   ·exact B2x hl h1 y q
  ·by_cases hf:k = .free
   ·subst hf
    dsimp only [C3u] at hc; simp only [Option.bind_eq_bind,Option.bind_eq_some_iff,Option.some.injEq] at hc
    obtain ⟨j,hj,l',hl,rfl⟩:=hc
    refine onP h fun id hid h=>?_
    refine B2n h fun cs' H1 h1 h=>?_
    rcases List.mem_cons.mp hy with q | q
    ·(clear hy; k_extra "q"); exact ⟨j,id,hj,hid⟩
    ·exact B2x hl h1 y q
   ·have hc':C3u ly names = some l:=by k_extra "k" <;> first | exact hc | exact absurd rfl hk | exact absurd rfl hf
    rcases List.mem_cons.mp hy with q | q
    ·(clear hy; (clear hc; (clear hk; k_extra "q"))); exact absurd rfl hf
    ·exact B2x hc' h y q
theorem B6u:∀ {names:List (Str × NameKind)} {x:Str} {k:NameKind},B6t (names.map (·.1)) = true → (x,k) ∈ names → names.lookup x = some k
 | [],x,k,hn,h=>absurd h List.not_mem_nil
 | (y,k') :: names,x,k,hn,h=>by
  replace hn:=Bool.and_eq_true_iff.mp hn; rw [Bool.not_eq_true'] at hn
  rcases List.mem_cons.mp h with q | q
  ·refine eqR q ?_
   simp only [List.lookup_cons]; simp
  ·have ne:x ≠ y:=by
    k_extra "fG"; rintro rfl
    have:(names.map (·.1)).contains x = true:=by
     rw [List.contains_iff_mem]
     exact List.mem_map.mpr ⟨_,q,rfl⟩
    replace this:=hn.1 ▸ this; exact absurd this Bool.false_ne_true
   simp only [List.lookup_cons]
   have:(x == y) = false:=by simpa using ne
   (refine eqQ this ?_)
   exact B6u hn.2 q
theorem B4y (o:List (Str × NameKind)):∀ l:List (Str × NameKind),B2i (B9i o l) = B2i l
 | []=>rfl
 | (x,k) :: l=>by
  have ih:=B4y o l
  show B2i ((if k == .free && o.lookup x == some .cell then (x,NameKind.cell) else (x,k)) :: B9i o l) = _
  split
  ·rename _=>h
   rw [Bool.and_eq_true] at h
   have:k = .free:=by simpa using h.1
   refine eqQ this ?_
   simp only [B0x,B0x,ih]
   rfl
  ·simp only [B0x,B0x,ih]
theorem B7t {env:Env} {ly:Ly} {f:Fm} (F:FR D c env ly f) (scope:Scope):(relabel scope env).names = B9i ly.sc scope.names:=by
 unfold relabel B9i
 have hk:(env.scope.kind == ScopeKind.function) = true:=by (refine eqQ F.kind ?_); rfl
 simp only [hk,Bool.and_true,B1c F]
theorem B2f {α:Type}:∀ (n i:Nat) {v:α},nth? (List.replicate n (Option.none:Option α)) i ≠ some (some v)
 | 0,i,v=>fun h=>noP (show (Option.none:Option (Option α)) = some (some v) from h)
 | n + 1,0,v=>fun h=>noP (oYY (show some (Option.none:Option α) = some (some v) from h))
 | n + 1,i + 1,v=>by
  exact B2f n i
theorem C8k (hr:RnOk prog w D g r) (hP:D.P = w.params) (G:GlobOk prog w D g) {ly:Ly} {env:Env} {f:Fm} {n:Nat} {elt target iter:Expr} {ifs:List Expr} {scope:Scope} {pos pos':Pos} {E':E} {v:AV} {H:St}
  (hc:cE g (n + 1) ly (.ListComp elt [⟨target,iter,ifs,0⟩] scope pos) = some E') (h:evC cx r E' f c.H = some (v,H)) (I:Inv D c) (F:FR D c env ly f) (K:AOk D A f.dep c env) {use:Option (Value → Sem Unit)} {Q:Value → Shared → Prop}
  (hQ:∀ i0 acc C s,v = .ref i0 → CP D c i0 H acc C s → compPost (model prog w) A Nev use Q acc C (.ok .next) s) :
  wpAny (model prog w) A (comprehension (.ListComp elt [⟨target,iter,ifs,0⟩] scope pos) scope env pos' (newList []) false (eval iter env) use) Q Nev c.s:=by
 k_extra "fG"; refine B0a hc fun q0 hq hc=>?_
 k_extra "hq"
 refine D6s hc fun _ q hsrc hc=>?_
 obtain ⟨k,it'⟩:=q
 refine B_ggb hc fun hg1 hnd elt' helt hc=>B5d hc fun t' ht ifs' hifs l hl hc=>?_
 k_extra "hc"
 have hkind:scope.kind = .function:=by simpa using hg1
 unfold evC at h
 dsimp only at h
 unfold D2r at h
 refine B2n h fun I0 H1 h1 h=>?_
 refine B2n h fun cs H2 h2 h=>onP h fun H3 h3 h=>?_
 k_extra "h"
 have hfree:∀ x,(x,NameKind.free) ∈ scope.names → ∃ a,env.cells.lookup x = some a:=fun x hx=>by
  (refine C0i (B2x hl h2 x hx) fun j i h5 h6=>?_)
  exact ⟨_,(F.cel x j i h5 h6).2⟩
 (refine B8y (B8o hfree hnd) fun cl hclos hcl1 hcl2=>?_)
 obtain ⟨hs,hsrc⟩:=D1v hr hP G hsrc h1 I F K
 refine wpAny_comprehension_free rfl hs hclos hkind (fun x hx hxl=>B6u hnd (by (have a:=x.1; have b:=x.2); refine eqR hxl ?_; exact hx)) ?_
 refine wpAny_mono hsrc (fun xv s1 h1=>wpAny_mono h1 (fun itv s2 h2=>?_) Mine.idE) Mine.idE
 ((clear hsrc; (clear h1; (clear h1; obtain ⟨p,c1,rfl,e98,rfl,I1,S1,X1,Z1⟩:=h2))); refine eqR e98 ?_)
 have F1:=F.mono S1
 -- the list
 show wpAny _ A (newList []) _ _ _
 refine wpAny_newObj_type ?_ (by size_fits)
 have hz:=B1l (h:=c1.s.heap) (Nat.le_refl _)
 obtain ⟨I2,S2⟩:=C4d (s':={ c1.s with heap:=c1.s.heap.push { cls:=.type "list",data:=.seq ([]:List Value).toArray } }) I1 (a:=c1.s.heap.objs.size) (e:=[(c1.s.heap.objs.size,{ cls:=.type "list",data:=.seq ([]:List Value).toArray })]) (o:=.list [])
  (fun p hp=>by (refine eqQ (List.mem_singleton.mp hp) ?_); exact hz) (by simp) (fun p hp=>by (refine eqQ (List.mem_singleton.mp hp) ?_); exact Heap.get?_push_size _ rfl) (fun _ _ e=>Heap.get?_push_of_some _ e)
  ⟨by simp,[],_,rfl,.nil⟩ I1.gens rfl rfl
 generalize hc2:c1.add c1.s.heap.objs.size [(c1.s.heap.objs.size,{ cls:=.type "list",data:=.seq ([]:List Value).toArray })] (.list []) { c1.s with heap:=c1.s.heap.push { cls:=.type "list",data:=.seq ([]:List Value).toArray } } = c2 at I2 S2
 have e2s:c2.s = { c1.s with heap:=c1.s.heap.push { cls:=.type "list",data:=.seq ([]:List Value).toArray } }:=by (exact eqR hc2 rfl)
 have e2H:c2.H = (c1.H.new (.list [])).2:=by (exact eqR hc2 rfl)
 have e2mu:c2.mu c1.H.n = c1.s.heap.objs.size:=by (refine eqR hc2 ?_); exact if_pos rfl
 have n2:c1.H.n < c2.H.n:=by (refine eqQ e2H ?_); exact Nat.lt_succ_self _
 (refine eqR e2mu ?_)
 show wpAny (model prog w) A (newFunctionEnv scope env.globals cl [] env.qual Option.none .none (some env)) (fun cenv s₄=>codeAny (model prog w) A (.compStart (.ListComp elt [⟨target,iter,ifs,0⟩] scope pos) 0 (.ref p.1) (.ref (c2.mu c1.H.n)) { cenv with scope:=relabel scope env }) (compPost (model prog w) A Nev use Q (.ref (c2.mu c1.H.n)) cenv.locals) s₄) Nev { c1.s with heap:=c1.s.heap.push { cls:=.type "list",data:=.seq ([]:List Value).toArray } }
 simp only [← e2s]
 refine wpAny_bind (wpAny_alloc ?_)
 have hz2:=B1l (h:=c2.s.heap) (Nat.le_refl _)
 (have I3:=(B3m (s':={ c2.s with heap:=c2.s.heap.push { cls:=.type "dict",data:=.dict #[] } }) I2 (fun _ _ e=>Heap.get?_push_of_some _ e) I2.gens rfl rfl).1; have S3:=(B3m (s':={ c2.s with heap:=c2.s.heap.push { cls:=.type "dict",data:=.dict #[] } }) I2 (fun _ _ e=>Heap.get?_push_of_some _ e) I2.gens rfl rfl).2)
 have F2:=F1.mono S2
 have F3:=F2.mono S3
 have hn3:(c2.s.heap.push { cls:=.type "dict",data:=.dict #[] }).Ns c2.s.heap.objs.size (fun _=>Option.none):=Heap.Ns.new ..
 have S03:Stp Option.none c (c2.up { c2.s with heap:=c2.s.heap.push { cls:=.type "dict",data:=.dict #[] } }):=(S1.trans S2 I1 (fun _ q=>by k_extra "q")).trans S3 I2 (fun _ q=>by k_extra "q")
 replace h2:=(e2H).symm ▸ h2
 refine wpAny_bind (wpAny_mono (B3z (ocells:=env.cells) _ (fun name kind cells=>by k_extra "kind" <;> rfl) scope.names (c:=c2.up { c2.s with heap:=c2.s.heap.push { cls:=.type "dict",data:=.dict #[] } }) hl h2 I3 F3.cel hnd) (fun cells s4 h4=>?_) Mine.idE)
 (refine D6w h4 fun c4 e91 e92 I4 S4 R4 K4=>?_; (clear h4; subst e91); (clear h2; subst e92))
 refine wpAny_bind (wpAny_pure (wpAny_pure ?_))
 have S04:=S03.trans S4 I3 (fun _ q=>by k_extra "q")
 have S24:Stp Option.none c2 c4:=S3.trans S4 I3 (fun _ q=>by k_extra "q")
 have S14:Stp Option.none c1 c4:=S2.trans S24 I2 (fun _ q=>by k_extra "q")
 have deadC:c.s.heap.get? c2.s.heap.objs.size = Option.none:=B9z I2 (S1.trans S2 I1 (fun _ q=>by k_extra "q")) hz2
 have untC3:¬ Trk (c2.up { c2.s with heap:=c2.s.heap.push { cls:=.type "dict",data:=.dict #[] } }) c2.s.heap.objs.size:=(B1y I2 hz2).1
 obtain ⟨oC,hoC⟩:=Ns.live hn3
 have untC:¬ Trk c4 c2.s.heap.objs.size:=S4.trk hoC untC3
 (refine B0o F2.ns fun m2 hm2 _=>?_)
 obtain ⟨oL,hoL⟩:=Ns.live hm2
 have FC:FR D c4 { ({ scope:=scope,locals:=c2.s.heap.objs.size,globals:=env.globals,cells:=cells,qual:=env.qual,func:=Option.none,code:=env.code,frame:=env.frame,builtins:=env.builtins }:Env) with scope:=relabel scope env } (C5g (B9i ly.sc scope.names)) ⟨List.replicate (C5g (B9i ly.sc scope.names)).locs.length Option.none,cs,f.dep⟩ :=
  {kind:=hkind
   names:=B7t F scope
   glb:=F.glb
   blt:=F.blt
   ns:=⟨_,(S4.keep _ oC hoC untC3 (by simp)).ns hoC hn3,fun i x v _ q=>absurd q (B2f _ _)⟩
   unt:=untC
   cel:=fun x j i hj hi=>by
    have hj:idxS x (B2i (B9i ly.sc scope.names)) = some j:=hj
    rw [B4y] at hj
    obtain ⟨q1,q2⟩:=R4 x j i hj hi
    refine ⟨q1,?_⟩
    k_extra "fG"; rcases q2 with ⟨_,q⟩ | ⟨qf,q⟩
    ·exact q
    ·show cells.lookup x = _
     simp only [K4 x (by (refine eqQ qf ?_); simp),hcl1 x qf]
     exact q
   above:=Nat.le_of_lt (Nat.lt_of_le_of_lt F2.above (Heap.lt_size hoL)) }
 have KC:AOk D A f.dep c { ({ scope:=scope,locals:=c2.s.heap.objs.size,globals:=env.globals,cells:=cells,qual:=env.qual,func:=Option.none,code:=env.code,frame:=env.frame,builtins:=env.builtins }:Env) with scope:=relabel scope env }:=by
  k_extra "fG"; obtain ⟨fenv,outer,L,dp,gd,un,e1,e2,e3,e4,e5,e6,e7,e8,e9,e10,e11,e12,e13,e14⟩:=K
  refine ⟨fenv,outer,L,dp,gd,un,e1,e2,e3,e4,e5,e6,e7,e8,e9,fun e he L' hL'=>⟨(e10 e he L' hL').1,?_,(e10 e he L' hL').2.2⟩,e11,e12,e13,e14⟩
  rintro rfl
  obtain ⟨o,ho⟩:=C3h e9 e he _ hL'
  exact absurd ho (by (refine eqQ deadC ?_); simp)
 have X4:ItR D c4 k I0 0 p c4.s:=by
  have n1:=F1.nsx
  exact X1.step (F1.weak S14) (n1 _ rfl)
 have hz4:∀ a,Zf p c2.s.heap.objs.size a → c.s.heap.get? a = Option.none:=fun a z=>by
  rcases z with z | rfl
  ·exact Z1 a z
  ·exact deadC
 have hacc:c1.H.n < c4.H.n:=Nat.lt_of_lt_of_le n2 S24.n
 have lp:codeAny (model prog w) A (.compLoop (.ListComp elt [⟨target,iter,ifs,0⟩] scope pos) 0 (.ref p.1) (.ref (c4.mu c1.H.n)) { ({ scope:=scope,locals:=c2.s.heap.objs.size,globals:=env.globals,cells:=cells,qual:=env.qual,func:=Option.none,code:=env.code,frame:=env.frame,builtins:=env.builtins }:Env) with scope:=relabel scope env })
   (compPost (model prog w) A Nev use Q (.ref (c4.mu c1.H.n)) c2.s.heap.objs.size) c4.s :=
  codeAny_mono (D5d (env:=env) (ly:=ly) hr hP helt ht hifs KC S04 I4 hz4 hacc h3 rfl I4 (StpD.refl _ _) FC X4) fun r s z9=>by
   (have e:=z9.1; have h:=z9.2)
   (refine eqQ e ?_)
   exact hQ _ _ _ s rfl h
 simp only [← S24.mu _ n2]
 exact codeAny_compStart_list lp (wpAny_mono (D4h (Q:=fun v s=>v = .ref p.1 ∧ s = c4.s) X4 ⟨rfl,rfl⟩) (fun v s ⟨e1,e2⟩=>by simp only [e1,e2]; exact lp) fun _ _ z=>z.elim)
end
end Ab
end
section
set_option backward.match.sparseCases false
open PySem PySem.W PyProof.Rows PySem.Calls PySem.SeqAt
namespace Ab
section
variable {prog:Program} {w:World} {A:Around} {D:Gd} {c:Cfg} {cx:Cx} {g:G} {r:Rn}
theorem C6u {o:Expr} {name:Str} {apos pos:Pos} {args:List Expr} {env:Env} {Q:Value → Shared → Prop} {s:Shared} (hbase:attributeBase o name env (eval o env) = eval o env) (hp:args.all B0z = true) (hl:args.length ≤ 20) (hline:(apos.endLine == pos.line) = true)
  (h:wpAny (model prog w) A (eval o env) (fun ov s₁=>∀ pl,wpAny (model prog w) A (getMethod ov name pl) (fun fx s₂=>wpAny (model prog w) A (callWith pos fx.1 fx.2 (args.map fun e=>(false,eval e env)) []) Q Nev s₂) Nev s₁) Nev s) :
  wpAny (model prog w) A (eval (.Call (.Attribute o name apos) args [] pos) env) Q Nev s:=by
 simp only [arm_eval_Call,hbase]
 refine wpAny_bind (wpAny_mono h (fun ov s₁ h₁=>?_) fun Z Z e=>e)
 refine wpAny_bind (wpAny_standAt ?_)
 have hform:methodCallForm (args.length + ([]:List Keyword).length) (backTo pos (starEach args env)) (backToKw pos (keywordEach [] env)) = true:=by
  simp only [B1j env hp,B1r]
  unfold methodCallForm
  have:(args.map fun e=>(false,eval e env)).all (fun x=>!x.1) = true:=by
   (refine eqQ List.all_map ?_)
   exact List.all_eq_true.mpr fun Z Z=>rfl
  (refine eqQ this ?_)
  show (true && true && decide (args.length + 0 + 0 < 30)) = true
  simp; exact om168 hl
 have hpos:methodCallPos true o env apos pos = pure pos:=by unfold methodCallPos; simp [hline]
 unfold methodCall
 (refine eqQ hform ?_)
 refine wpAny_bind (wpAny_holding (wpAny_mono (h₁ _) (fun fx s₂ h₂=>?_) fun Z Z e=>e))
 refine wpAny_bind (wpAny_of_eq hpos ?_)
 simp only [B1j env hp,B1r]
 exact h₂
theorem C0s {s:Shared} {a:Addr} {vs:Array Value} {k:Nat} (h:s.heap.get? a = some (W.listOf vs k)):∀ b,Value.ref a = .ref b → ∃ o,s.heap.get? b = some o ∧ o.dict = Option.none:=fun b e=>by refine eqR (PySem.Value.ref.inj e) ?_; exact ⟨_,h,rfl⟩
noncomputable def mid:Mt → AV → String
 | .append,J => "list.append"
 | .count,J => "str.count"
 | .index,J => "list.index"
 | J,Y => "str.join"
theorem bm_ok (I:Inv D c) (hP:D.P = w.params) (C:CxOk D cx) (hu:A.units + 74 < cLine) {m:Mt} {x v:AV} {vs:List AV} {u:Value} {us:List Value} {H:St} (h1:m ≠ .push) (h2:m ≠ .tok) (h:mcall cx x m vs c.H = some (v,H)) (rx:VR D.θ c x u) (rs:VRs D.θ c vs us) :
  wpAny (model prog w) A (call (.builtin (mid m x)) (u :: us)) (PV D c v H) Nev c.s:=by
 cases m with
 | append =>
  refine onP h fun v1 h1 h=>onP h fun p hp h=>prB h fun hl h=>?_
  (have e:=(B0k hp).1; have q:=(B0k hp).2)
  replace rs:=(B0c h1) ▸ rs
  rw [e] at rx ⊢
  cases rs with
  | cons r1 rs=>refine vN rs ?_; refine B0j h ?_; refine C9h rx fun hi=>?_; rw [B4b]; exact C0g I hi q r1 (leL hl)
 | count =>
  refine B1i (show B0h (B5a x) (fun s=>C6x s vs c.H) Option.none = some (v,H) from h) (fun s hx h=>?_) fun Z h=>noP h
  refine onP h fun v1 h1 h=>onP h fun x1 hx1 h=>onP h fun ch hc h=>?_
  rw [B0c h1,B0e hx1,B0c hc] at rs
  refine uStr hx rx fun hs t=>?_
  refine vC rs fun Z Z r1 rs=>?_
  ·refine vN rs ?_
   refine D3b r1 fun hs2 t2=>?_
   refine B0j h ?_
   refine SC.count ?_
   rw [C5h]
   exact PV.tok I ⟨_,rfl⟩
 | join =>
  refine onP h fun d hd h=>onP h fun v1 h1 h=>onP h fun p hp h=>?_
  (have e:=(B0k hp).1; have q:=(B0k hp).2)
  replace rs:=(B0c h1) ▸ rs
  replace rs:=e ▸ rs
  rw [B0e hd] at rx ⊢
  refine D3b rx fun hs t=>?_
  refine vC rs fun _ _ r1 rs=>?_
  ·refine vN rs ?_
   refine C9h r1 fun hi=>?_
   refine B1i h (fun x1 hx1 h=>prB h fun hl h=>?_) fun Z h=>onP h fun gs hg h=>prB h fun he h=>?_
   ·refine B0j h ?_
    exact D5g I hs hi q hx1 (nYY hl)
   ·((have h9:=(B0v h).1; have e98:=(B0v h).2); refine eqR e98 ?_)
    (refine eqQ (List.isEmpty_iff.mp he) ?_)
    exact C4s I hi q hg h9
 | index =>
  refine onP h fun v1 h1 h=>onP h fun p hp h=>prB h fun hpl h=>?_
  (have e:=(B0k hp).1; have q:=(B0k hp).2)
  replace rs:=(B0c h1) ▸ rs
  rw [e] at rx ⊢
  cases rs with
  | cons r1 rs=>refine vN rs ?_; refine C9h rx fun hi=>?_; exact D0p I C hu hi q r1 hpl h
 | push=>exact absurd rfl h1
 | tok=>exact absurd rfl h2
noncomputable def mName:Mt → Str
 | .append => "append"
 | .count => "count"
 | .join => "join"
 | .push => "push_token"
 | .tok => "get_token"
 | .index => "index"
theorem ifP {α:Type} {p:Prop} [Decidable p] {a y:α} {o:Option α} {P:Prop} (h:(if p then some a else o) = some y) (q1:p → a = y → P) (q2:o = some y → P):P:=by
 by_cases e:p
 ·rw [if_pos e] at h; exact q1 e (oYY h)
 ·rw [if_neg e] at h; exact q2 h
theorem D0c {x:Str} {m:Mt} (h:mtd x = some m):x = mName m :=
 ifP h (fun e z=>z ▸ e) fun h=>ifP h (fun e z=>z ▸ e) fun h=>ifP h (fun e z=>z ▸ e) fun h=>ifP h (fun e z=>z ▸ e) fun h=>ifP h (fun e z=>z ▸ e) fun h=>ifP h (fun e z=>z ▸ e) fun h=>noP h
theorem C4p {i:Nat} {vs:List AV} {H H':St} {v:AV} (h:mcall cx (.ref i) .push vs H = some (v,H')):∃ x y k pb,vs = [x] ∧ H.get i = .lex y k pb ∧ pb.length ≤ 900 ∧ v = .none ∧ H' = H.set i (.lex y k (pb ++ [x])) :=
 onP h fun x h1 h=>by
  have h:pushA (H.get i) i x H = some (v,H'):=h
  cases q:H.get i with
  | lex y k pb =>
   rw [q] at h
   exact prB h fun hl h=>by refine B0j h ?_; rw [B4b]; exact ⟨x,y,k,pb,B0c h1,rfl,leL hl,rfl,rfl⟩
  | _=>rw [q] at h; exact noP h
theorem C6w {i:Nat} {vs:List AV} {H H':St} {v:AV} (h:mcall cx (.ref i) .tok vs H = some (v,H')):vs = []:=prB h fun e Z=>List.isEmpty_iff.mp e
theorem D0g (hr:RnOk prog w D g r) (hP:D.P = w.params) (C:CxOk D cx) {pushA tokA:Addr} (L:LexSpec prog w D pushA tokA) {ly:Ly} {env:Env} {f:Fm} {n:Nat} {o:Expr} {name:Str} {m:Mt} {apos pos:Pos} {args:List Expr} {x v:AV} {H H2:St} {Es:List E} {vs:List AV} {u:Value}
  (hm:mtd name = some m) (hp:args.all B0z = true) (hcl:cL (cE g n ly) args = some Es) (hk:mtOk m x c.H = true) (hvs:evs r f Es c.H = some (vs,H2)) (h:mcall cx x m vs H2 = some (v,H)) (I:Inv D c) (F:FR D c env ly f) (K:AOk D A f.dep c env) (rx:VR D.θ c x u) (pl:Sem Bool) :
  wpAny (model prog w) A (getMethod u name pl) (fun fx s₂=>wpAny (model prog w) A (callWith pos fx.1 fx.2 (args.map fun e=>(false,eval e env)) []) (PV D c v H) Nev s₂) Nev c.s:=by
 have ar:=fun fv=>C1w (fv:=fv) (prog:=prog) (w:=w) (A:=A) hr hp hcl hvs I F K
 have hu:=B2d K
 have run:∀ {T id:String},id = mid m x → m ≠ .push → m ≠ .tok → c.s.TypeIs u T → PlainAttrs T → Slot T name id → typeOf (.builtin id) = pure (.type "method_descriptor") → (∀ a,u = .ref a → ∃ ob,c.s.heap.get? a = some ob ∧ ob.dict = Option.none) →
   wpAny (model prog w) A (getMethod u name pl) (fun fx s₂=>wpAny (model prog w) A (callWith pos fx.1 fx.2 (args.map fun e=>(false,eval e env)) []) (PV D c v H) Nev s₂) Nev c.s:=by
  intro T id hid h1 h2 hT pa sl ty nd
  refine getMethod_builtin hT pa sl ty nd (callWith_builtin (B6l _ _) (wpAny_mono (ar _) (fun a s ha=>?_) Mine.idE))
  obtain ⟨ha,c2,rfl,hH,I2,S2,r2⟩:=ha
  (refine eqQ ha ?_; refine eqQ hid ?_)
  exact wpAny_mono (bm_ok I2 hP C hu h1 h2 (by (refine eqQ hH ?_); exact h) (rx.mono S2) r2) (fun Z Z h=>h.after S2 I2) Mine.idE
 have run2:∀ {fa a:Addr},u = .ref a → (∃ o fd,D.b0.get? fa = some o ∧ o.data = .func fd) → (∀ c2 us,c2.H = H2 → Inv D c2 → Stp Option.none c c2 → VRs D.θ c2 vs us → wpAny (model prog w) A (call (.ref fa) (u :: us)) (PV D c2 v H) Nev c2.s) →
   wpAny (model prog w) A (callWith pos (.ref fa) [u] (args.map fun e=>(false,eval e env)) []) (PV D c v H) Nev c.s:=by
  intro fa a _ h973 hc; refine C0i h973 fun o fd hb hd=>?_
  refine callWith_function_kw (o:=o) (fd:=fd) (wpAny_mono (ar _) (fun a s ha=>?_) Mine.idE)
  obtain ⟨ha,c2,rfl,h2,I2,S2,r2⟩:=ha
  (refine eqQ ha ?_)
  exact ⟨⟨I2.stat _ _ hb,hd⟩,wpAny_mono (hc c2 a.pos h2 I2 S2 r2) (fun Z Z h=>h.after S2 I2) Mine.idE⟩
 have hname:=D0c hm
 (clear hm; subst hname)
 cases x with
 | str s =>
  (clear h; obtain ⟨hs,t,rfl⟩:=rx)
  cases m with
  | count=>exact run rfl (by simp) (by simp) (typeIs_str _ _ _) PySem.F.plainAttrs_str PySem.F.slot_str_count PySem.F.type_str_count (fun Z e=>(by first | exact noP e | exact fT e | exact nomatch e))
  | join=>exact run rfl (by simp) (by simp) (typeIs_str _ _ _) PySem.F.plainAttrs_str PySem.F.slot_str_join PySem.F.type_str_join (fun Z e=>(by first | exact noP e | exact fT e | exact nomatch e))
  | _=>(first | exact noP hk | exact fT hk | exact nomatch hk)
 | ref i =>
  have rx':=rx
  k_extra "fG"; obtain ⟨hi,rfl⟩:=rx
  unfold mtOk at hk
  dsimp only at hk
  cases q:c.H.get i with
  | list l =>
   replace hk:=q ▸ hk
   obtain ⟨_,us,k,_,_,ho⟩:=I.list hi q
   have hT:=(B1d ho).typeIs
   have nd:=C0s ho
   cases m with
   | append=>exact run rfl (by simp) (by simp) hT PySem.F.plainAttrs_list PySem.F.slot_list_append PySem.F.type_list_append nd
   | index=>exact run rfl (by simp) (by simp) hT PySem.F.plainAttrs_list PySem.F.slot_list_index PySem.F.type_list_index nd
   | _=>(first | exact noP hk | exact fT hk | exact nomatch hk)
  | lex y k pb =>
   replace hk:=q ▸ hk
   cases m with
   | push =>
    refine L.gpush I K hi q (run2 rfl L.fpush fun c2 us h2 I2 S2 r2=>?_)
    ((refine x4a5 (C4p h) fun z y' k' pb' e94 hg hl e97 e98=>?_; subst e94; refine eqQ e97 ?_); refine eqQ e98 ?_)
    (clear h; subst h2)
    refine vC r2 fun _ _ r1 r2=>?_
    ·refine vN r2 ?_
     (refine eqR (S2.mu i hi) ?_)
     exact L.push I2 (K.step S2 (.inl rfl)) (Nat.lt_of_lt_of_le hi S2.n) hg hl r1
   | tok =>
    refine L.gtok I K hi q (run2 rfl L.ftok fun c2 us h2 I2 S2 r2=>?_)
    have hv:=C6w h
    subst hv
    subst h2
    refine vN r2 ?_
    (refine eqR (S2.mu i hi) ?_)
    exact L.tok I2 (K.step S2 (.inl rfl)) (Nat.lt_of_lt_of_le hi S2.n) fun cx'=>h
   | _=>(first | exact noP hk | exact fT hk | exact nomatch hk)
  | _=>replace hk:=q ▸ hk; (first | exact noP hk | exact fT hk | exact nomatch hk)
 | _=>(first | exact noP hk | exact fT hk | exact nomatch hk)
end
end Ab
end
section
set_option backward.match.sparseCases false
open PySem PySem.W PyProof.Rows PySem.Calls PySem.SeqAt
namespace Ab
section
variable {prog:Program} {w:World} {A:Around} {D:Gd} {c:Cfg} {cx:Cx} {g:G} {r:Rn}
theorem CP.drop (I:Inv D c) {i0:Nat} {H:St} {acc:Value} {C:Addr} {s:Shared} {h':Heap} (x:CP D c i0 H acc C s) (hs:Heap.SameBut C s.heap h'):∃ c':Cfg,c'.s = { s with heap:=h' } ∧ c'.H = H ∧ Inv D c' ∧ Stp Option.none c c' ∧ acc = .ref (c'.mu i0) ∧ i0 < c'.H.n:=by
 obtain ⟨c1,rfl,rfl,I1,S1,e1,n1,⟨m,hm⟩,dC,uC⟩:=x
 have hb:=(B1y I dC).2
 obtain ⟨I',S'⟩:=upE (Z:=fun b=>b = C) (s':={ c1.s with heap:=h' }) I1 (fun b o z e=>(hs.2 b z).trans e) (fun b z=>by refine eqQ z ?_; exact ⟨uC,hb⟩) I1.gens rfl rfl
 exact ⟨c1.up { c1.s with heap:=h' },rfl,rfl,I',StpE.close S1 S' I1 (fun a z=>.inl (by have z:a = C:=z; (refine eqQ z ?_); exact dC)) (fun L q=>by k_extra "q"),e1,n1⟩
theorem D1a (I:Inv D c) {i0:Nat} {H:St} {acc:Value} {C:Addr} {s:Shared} (x:CP D c i0 H acc C s):compPost (model prog w) A Nev Option.none (PV D c (.ref i0) H) acc C (.ok .next) s:=by
 k_extra "fG"; obtain ⟨_,_,_,_,_,_,_,hm,_,_⟩:=id x
 obtain ⟨m,hm⟩:=hm
 refine ⟨m,hm,fun h' hs=>?_⟩
 (refine D6w (x.drop I hs) fun c' a b I' S' e n=>?_)
 exact ⟨c',a,b,I',S',n,e⟩
noncomputable abbrev lv (cx:Cx) (r:Rn):Rn:=⟨evC cx r,tsC cx r,exC cx r,caC cx r⟩
theorem C7z (hr:RnOk prog w D g r) {A:Around} {ly:Ly} {env:Env} {f:Fm} {c0:Cfg} {n:Nat} {γ:Type} {y:γ} {es:List Expr} {l:List E} (hl:cL (cE g n ly) es = some l) {k:List AV → St → Option γ} {Q:List Value → Shared → Prop}
  (h:on2 (evs r f l c.H) k = some y) (X:Ax D A env ly f c0 c)
  (q:∀ c1 v u,Ax D A env ly f c0 c1 → VRs D.θ c1 v u → k v c1.H = some y → Q u c1.s):wpAny (model prog w) A (spliced (es.map fun e=>(false,eval e env))) Q Nev c.s :=
 B2n h fun v H1 h1 h=>wpAny_mono (C8a hr hl h1 X.I X.F X.K) (fun u s1 ⟨c1,b,d,I1,S1,r1⟩=>by (clear h1; subst b d); exact q c1 v u (X.up I1 S1) r1 h) Mine.idE
theorem C1l (hr:RnOk prog w D g r) {A:Around} {ly:Ly} {env:Env} {f:Fm} {c0:Cfg} {n:Nat} {γ:Type} {y:γ} {e:Option Expr} {E':Option E} (hl:cO (cE g n ly) e = some E') {k:Option AV → St → Option γ} {Q:Value → Shared → Prop}
  (h:on2 (evo r f E' c.H) k = some y) (X:Ax D A env ly f c0 c)
  (q:∀ c1 v u,Ax D A env ly f c0 c1 → VRo D.θ c1 v u → Stp none c c1 → k v c1.H = some y → Q u c1.s):wpAny (model prog w) A (evalPart e env) Q Nev c.s :=
 B2n h fun v H1 h1 h=>wpAny_mono (D9u hr hl h1 X.I X.F X.K) (fun u s1 ⟨c1,b,d,I1,S1,r1⟩=>by (clear h1; subst b d); exact q c1 v u (X.up I1 S1) r1 S1 h) Mine.idE
theorem C3s (I:Inv D c) {s:Str} (hs:SOk s.cps.toList) {k:Nat} {p:Pos} {env:Env}:wpAny (model prog w) A (eval (.Constant (.str s) k p) env) (PV D c (.str s.cps.toList) c.H) Nev c.s:=Constant_str (PV.tok I ⟨hs,_,rfl⟩)
theorem B9e {e:Expr} {x:List Nat} (h:strK e = some x):∃ s k p,e = .Constant (.str s) k p ∧ s.cps.toList = x:=by
 cases e with
 | Constant k kd p=>cases k with
  | str s=>exact ⟨s,kd,p,rfl,oYY h⟩
  | _=>exact noP h
 | _=>exact noP h
theorem D0q {e:Expr} {q:Expr × Expr} (h:inO e = some q):∃ p,e = .Compare q.1 [.In] [q.2] p:=by
 cases e with
 | Compare a os bs p =>
  refine B0a h fun o eo h=>B0a h fun b eb h=>?_
  cases o with
  | In=>exact ⟨p,by rw [B0c eo,B0c eb,← oYY h]⟩
  | _=>exact noP h
 | _=>exact noP h
theorem C9b {e:Expr} {q:Expr × Expr} (h:addO e = some q):∃ p,e = .BinOp q.1 .Add q.2 p:=by
 cases e with
 | BinOp a o b p=>cases o with
  | Add=>exact ⟨p,by rw [← oYY h]⟩
  | _=>exact noP h
 | _=>exact noP h
inductive EscR (g:G) (ly:Ly) (i:Nat):Expr → Expr → Expr → Prop
 | mk (x:Str) (s u:Str) (k1 k2:Nat) (p1 p2 p3 p4 p5 p6 p7:Pos) (hs:s.cps.toList = [34,92]) (hu:u.cps.toList = [92]) (hx:cName g ly x = some (.loc i)) :
  EscR g ly i (.Compare (.Name x p1) [.In] [.Constant (.str s) k1 p2] p3) (.BinOp (.Constant (.str u) k2 p4) .Add (.Name x p5) p6) (.Name x p7)
theorem C8d {g:G} {ly:Ly} {i:Nat} {c a b:Expr} (h:escO g ly c a b = some i):EscR g ly i c a b:=by
 refine B0a h fun p e1 h=>B0a h fun x e2 h=>B0a h fun s e3 h=>B0a h fun q e4 h=>B0a h fun y e5 h=>B0a h fun z e6 h=>B0a h fun u e7 h=>gdP h fun h1 h=>gdP h fun h2 h=>gdP h fun h3 h=>gdP h fun h4 hl=>?_
 obtain ⟨p3,rfl⟩:=D0q e1
 obtain ⟨p6,rfl⟩:=C9b e4
 obtain ⟨p1,e2⟩:=B0s e2
 obtain ⟨p5,e5⟩:=B0s e5
 obtain ⟨p7,e6⟩:=B0s e6
 obtain ⟨s',k1,p2,e3,hs⟩:=B9e e3
 obtain ⟨u',k2,p4,e7,hu⟩:=B9e e7
 have h3:=of_decide_eq_true h3
 have h4:=of_decide_eq_true h4
 rw [e2,e3,e5,e7,e6,h3,h4]
 refine .mk _ s' u' k1 k2 p1 p2 p3 p4 p5 p6 p7 (hs.trans (of_decide_eq_true h1)) (hu.trans (of_decide_eq_true h2)) ?_
 cases q0:cName g ly x with
 | none=>rw [q0] at hl; exact noP hl
 | some e=>cases e with
  | loc j=>rw [q0] at hl; exact congrArg (fun k=>some (E.loc k)) (oYY hl)
  | _=>rw [q0] at hl; exact noP hl
theorem D9y (r:Rn) (I:Inv D c) (C:CxOk D cx) {g:G} (G:GlobOk prog w D g) (hu:A.units + 74 < cLine) {env:Env} {ly:Ly} {f:Fm} (F:FR D c env ly f) {cc a b:Expr} {p:Pos} {i j:Nat} (R:EscR g ly i cc a b) (hg:B4t f i = some (.pc [.var j])) :
  wpAny (model prog w) A (eval (.IfExp cc a b p) env) (PV D c (.pc [.esc j]) c.H) Nev c.s:=by
 cases R with
 | mk x s u k1 k2 p1 p2 p3 p4 p5 p6 p7 hs hu' hx =>
  have nm:∀ (c1:Cfg) (q:Pos),Inv D c1 → FR D c1 env ly f → wpAny (model prog w) A (eval (.Name x q) env) (PV D c1 (.pc [.var j]) c1.H) Nev c1.s:=fun c1 q I1 F1=>B7x (r:=r) (cx:=cx) I1 G F1 hx (by show rv (B4t f i) c1.H = _; rw [hg]; rfl)
  have s1:SOk s.cps.toList:=by rw [hs]; exact ⟨by decide,by decide⟩
  have s2:SOk u.cps.toList:=by rw [hu']; exact ⟨by decide,by decide⟩
  have fin:∀ (c3:Cfg) (y:Value),VR D.θ c3 (.str (C8c (D.θ j).toNat)) y → VR D.θ c3 (.pc [.esc j]) y:=fun c3 y h=>by
   have e:B1o D.θ [Pc.esc j] = C8c (D.θ j).toNat:=List.append_nil _
   show SOk (B1o D.θ [Pc.esc j]) ∧ ∃ t,y = .str ⟨(B1o D.θ [Pc.esc j]).toArray⟩ t
   rw [e]
   exact h
  refine wpAny_IfExp (wpAny_isTrue_Compare1 (wpAny_mono (nm c p1 I F) (fun u1 z1 h1=>?_) Mine.idE) rfl)
  obtain ⟨c1,rfl,H1,I1,S1,r1⟩:=h1
  refine wpAny_mono (C3s I1 s1) (fun u2 z2 h2=>?_) Mine.idE
  obtain ⟨c2,rfl,H2,I2,S2,r2⟩:=h2
  rw [hs] at r2
  have F2:=(F.mono S1).mono S2
  refine B6g (r:=C0h (D.θ j).toNat [34,92]) (a:=.str [(D.θ j).toNat]) (b:=.str [34,92]) I2 C hu (op:=.In) rfl (VR.mono S2 r1) r2 rfl (wpAny_truthy_bool ?_)
  cases q:C0h (D.θ j).toNat [34,92] with
  | true =>
   (refine eqQ (if_pos rfl) ?_)
   refine wpAny_BinOp (wpAny_mono (C3s I2 s2) (fun u3 z3 h3=>?_) Mine.idE)
   obtain ⟨c3,rfl,H3,I3,S3,r3⟩:=h3
   refine wpAny_mono (nm c3 p5 I3 (F2.mono S3)) (fun u4 z4 h4=>?_) Mine.idE
   obtain ⟨c4,rfl,H4,I4,S4,r4⟩:=h4
   rw [hu'] at r3
   refine wpAny_mono (D3j (cx:=cx) (o:=.add) (op:=.Add) (v:=.str [92,(D.θ j).toNat]) (H:=c4.H) (a:=.str [92]) (b:=.str [(D.θ j).toNat]) I4 C rfl rfl (VR.mono S4 r3) r4) (fun u5 z5 h5=>?_) Mine.idE
   obtain ⟨c5,rfl,H5,I5,S5,r5⟩:=h5
   refine ⟨c5,rfl,by rw [H5,H4,H3,H2,H1],I5,(((S1.trans S2 I1 fun Z z=>noP z).trans S3 I2 fun Z z=>noP z).trans S4 I3 fun Z z=>noP z).trans S5 I4 fun Z z=>noP z,fin _ _ ?_⟩
   unfold C8c; rw [q]; exact r5
  | false =>
   (refine eqQ (if_neg Bool.false_ne_true) ?_)
   refine wpAny_mono (nm c2 p7 I2 F2) (fun u3 z3 h3=>?_) Mine.idE
   obtain ⟨c3,rfl,H3,I3,S3,r3⟩:=h3
   refine ⟨c3,rfl,by rw [H3,H2,H1],I3,(S1.trans S2 I1 fun Z z=>noP z).trans S3 I2 fun Z z=>noP z,fin _ _ ?_⟩
   unfold C8c; rw [q]; exact r3
theorem D5v (hr:RnOk prog w D g r) (W:Wd prog w D cx g):EvOk prog w D g (lv cx r):=by
 intro ly env f c A n e E' v H hc h I F K
 have h:evC cx r E' f c.H = some (v,H):=h
 have C:=W.C
 have G:=W.G
 (refine x2a1 W.L fun pushA tokA L=>?_)
 have hu:=B2d K
 have hh:=K.handled
 have X:=Ax.start I F K
 cases n with
 | zero=>k_extra "hc"
 | succ n =>
  cases e with
  | Constant k kd p =>
   cases k with
   | int i=>k_extra "hc"; refine B0j h ?_; exact wpAny_Constant_int (PV.tok I ⟨_,rfl⟩)
   | str s =>
    refine iteP (show (if _ = true then some _ else Option.none) = some E' from hc) fun hs e=>?_
    (clear h; (clear hc; subst e))
    refine B0j h ?_
    rw [Bool.and_eq_true] at hs
    refine Constant_str (PV.tok I ⟨⟨?_,fun ch hch=>?_⟩,_,rfl⟩)
    ·have e:s.cps.toList.length = s.length:=by simp [Str.length]
     rw [e]
     exact Nat.le_trans (nYY hs.1) (by decide)
    ·exact nYY (List.all_eq_true.mp hs.2 ch hch)
   | none=>(clear h; k_extra "hc"); refine B0j h ?_; exact wpAny_Constant_none (PV.same I rfl)
   | bool b=>(clear h; k_extra "hc"); refine B0j h ?_; exact wpAny_Constant_bool (PV.same I rfl)
   | _=>k_extra "hc"
  | Name x p=>exact B7x I G F hc h
  | BinOp a o b p =>
   refine B5d hc fun o' ho a' ha b' hb hc=>?_
   k_extra "hc"
   exact wpAny_BinOp (B1p hr ha h X fun c1 v1 u1 X1 r1 S1 h=>B1p hr hb h X1 fun c2 v2 u2 X2 r2 S2 h=>wpAny_mono (D3j X2.I C ho h (r1.mono S2) r2) (fun _ _ q=>X2.pv q) Mine.idE)
  | UnaryOp op a p =>
   refine B0a hc fun a' ha hc=>?_
   cases op with
   | USub =>
    k_extra "hc"
    exact wpAny_UnaryOp (B1p hr ha h X fun c1 v1 u1 X1 r1 S1 h=>by
     (obtain ⟨h2,e98⟩:=B0v h; refine eqR e98 ?_)
     exact wpAny_mono (D8n X1.I C h2 r1) (fun _ _ q=>X1.pv q) Mine.idE)
   | _=>exact noP hc
  | BoolOp op as p=>exact B0a hc fun l hl hc=>by cases op <;> (k_extra "hc"; exact noP h)
  | Compare a os bs p =>
   refine B1i (show cCmp (cE g n ly) a os bs = some E' from hc) (fun o eo hc=>C9d hc fun b eb hg o' ho a1 ha b1 hb hc=>?_) fun e0 hc=>B0a hc fun l hl hc=>B0a hc fun a1 ha hc=>by
    cases l with
    | nil=>exact noP hc
    | cons p1 l=>have z:=oYY hc; subst z; exact noP h
   rw [B0c eo,B0c eb]
   k_extra "hc"
   exact wpAny_Compare1 (B1p hr ha h X fun c1 v1 u1 X1 r1 S1 h=>B1p hr hb h X1 fun c2 v2 u2 X2 r2 S2 h=>by
    ((refine B8y (C9u h) fun bq hq e98 e93=>?_; subst e93); refine eqQ e98 ?_)
    exact B6g X2.I C hu ho (r1.mono S2) r2 hq (X2.pv (PV.same X2.I (v:=.bool bq) (u:=.bool bq) rfl))) (B3f hg)
  | IfExp cc a b p =>
   refine B0a (show cIf g ly (cE g n ly) cc a b = some E' from hc) fun c' hcc hc=>B0a hc fun a' ha hc=>B0a hc fun b' hb hc=>B0a hc fun i q hc=>?_
   have hc:=oYY hc
   subst hc
   have key:(∃ i j,EscR g ly i cc a b ∧ B4t f i = some (.pc [.var j]) ∧ v = .pc [.esc j] ∧ H = c.H) ∨ iteE r c' a' b' f c.H = some (v,H):=by
     refine B1i (δ:=AV × St) h (fun v0 hg h=>B1i h (fun gs eg h=>?_) fun Z h=>.inr h) fun Z h=>noP h
     obtain ⟨h9,e9⟩:=B0v h
     refine onP h9 fun j hj h9=>.inl ⟨i,j,C8d q,hg.trans (congrArg some (B5k hj)),(oYY h9).symm,e9.symm⟩
   rcases key with ⟨i,j,R,hg,rfl,rfl⟩ | h
   ·exact D9y r I C G hu F R hg
   refine wpAny_IfExp (D1t hr hcc h X (fun c1 X1 h=>?_) fun c1 X1 h=>?_)
   ·(refine eqQ (if_pos rfl) ?_)
    exact wpAny_mono (hr.ev ly env f c1 A n _ _ _ _ ha h X1.I X1.F X1.K) (fun _ _ q=>X1.pv q) Mine.idE
   ·(refine eqQ (if_neg Bool.false_ne_true) ?_)
    exact wpAny_mono (hr.ev ly env f c1 A n _ _ _ _ hb h X1.I X1.F X1.K) (fun _ _ q=>X1.pv q) Mine.idE
  | Tuple as k p =>
   refine D6s hc fun hg l hl hc=>?_
   k_extra "hc"
   refine Tuple_ ?_
   rw [B1j env hg,B1r]
   refine C7z hr hl h X fun c1 vs us X1 r1 h=>?_
   refine prB h fun hle h=>?_
   refine B0j h ?_
   have hlen:=r1.length
   have hle:=leL hle
   have hz:(B6x:Nat) = 300000:=rfl
   have:=B8a
   exact wpAny_newTuple (X1.pv (PV.newTup X1.I (by omega) r1)) (by omega)
  | List as p =>
   refine D6s hc fun hg l hl hc=>?_
   k_extra "hc"
   refine List_ ?_
   rw [B1j env hg,B1r]
   refine C7z hr hl h X fun c1 vs us X1 r1 h=>?_
   refine prB h fun hle h=>?_
   refine B0j h ?_
   have hlen:=r1.length
   have hle:=leL hle
   have hz:(B6x:Nat) = 300000:=rfl
   have:=B8a
   exact wpAny_newList (X1.pv (PV.newList X1.I (by omega) r1)) (by omega)
  | Subscript a i p =>
   refine F0m (show F1u (cE g n ly) a i = some E' from hc) (fun l u s z e hc=>?_) fun hns hc=>?_
   ·subst e; refine C9e hc fun a' ha lo' hlo hi' hhi st' hst hc=>?_
    k_extra "hc"
    exact Subscript_ (B1p hr ha h X fun c1 v1 u1 X1 r1 S1 h=>wpAny_Slice (C1l hr hlo h X1 fun c2 v2 u2 X2 r2 S2 h=>C1l hr hhi h X2 fun c3 v3 u3 X3 r3 S3 h=>C1l hr hst h X3 fun c4 v4 u4 X4 r4 S4 h=>by
     exact wpAny_mono (D7t X4.I h (((r1.mono S2).mono S3).mono S4) ((VRo.mono S3 r2).mono S4) (VRo.mono S4 r3) r4) (fun _ _ q=>X4.pv q) Mine.idE))
   ·refine C4e hc fun a' ha i' hi hc=>?_
    k_extra "hc"
    exact Subscript_ (B1p hr ha h X fun c1 v1 u1 X1 r1 S1 h=>B1p hr hi h X1 fun c2 v2 u2 X2 r2 S2 h=>by
     (obtain ⟨h3,e98⟩:=B0v h; refine eqR e98 ?_)
     exact wpAny_mono (D5j X2.I W.hP hns h3 (r1.mono S2) r2) (fun _ _ q=>X2.pv q) Mine.idE)
  | Call fn as kw p =>
    refine D3g (show D1g g ly (cE g n ly) as kw p fn = some E' from hc) (fun x xp e0 e1 hg1 hg2 ev hn gv hlit l hl hz=>?_) fun o x ap e0 e1 hg1 hg2 hg3 hg4 o' ho m hm l hl hz=>?_
    ·subst hz; subst e0; subst e1
     rw [C4r hlit] at hn
     cases gv with
     | bi b =>
      refine B2n (x:=evs r f l c.H) (k:=fun vs H=>D6p cx b vs H) h fun vs H1 h1 h=>?_
      refine D6l hr G hn hg1 hl h1 I F K fun c1 us hH I1 S1 rs=>?_
      (clear h1; subst hH)
      exact wpAny_mono (D1m I1 C hh h rs) (fun _ _ q=>q.after S1 I1) Mine.idE
     | glob a =>
      refine B2n (x:=evs r f l c.H) (k:=fun vs H=>r.ca f.dep (.glob a) vs H) h fun vs H1 h1 h=>?_
      refine Call_Name rfl ?_
      rw [B1j env hg1,B1r]
      refine wpAny_mono (B7x (cx:=cx) (r:=r) I G F hn rfl) (fun u s1 q=>?_) Mine.idE
      obtain ⟨c1,rfl,hH,I1,S1,r1⟩:=q
      have r1:u = .ref a:=r1
      refine eqQ r1 ?_
      replace h1:=(hH).symm ▸ h1
      have X1:=X.up I1 S1
      have cal:∀ c2 us,c2.H = H1 → Inv D c2 → Stp Option.none c1 c2 → VRs D.θ c2 vs us → B8v D a ∧ wpAny (model prog w) A (call (.ref a) us) (PV D c v H) Nev c2.s:=fun c2 us h2 I2 S2 r2=>by
       subst h2
       have hca:=hr.ca f.dep a vs us c2 A env v H h I2 r2 (X1.K.step S2 (.inl rfl))
       exact ⟨hca.1,wpAny_mono hca.2 (fun _ _ q=>X1.pv (q.after S2 I2)) Mine.idE⟩
      have ar:=fun fv=>C1w (fv:=fv) (prog:=prog) (w:=w) (A:=A) hr hg1 hl h1 I1 X1.F X1.K
      by_cases hcb:B8v D a
      ·(refine C0i hcb fun o fd hb hd=>?_)
       refine callWith_function_kw (o:=o) (fd:=fd) (wpAny_mono (ar _) (fun y s hy=>?_) Mine.idE)
       obtain ⟨hy,c2,rfl,h2,I2,S2,r2⟩:=hy
       (refine eqQ hy ?_)
       exact ⟨⟨I2.stat _ _ hb,hd⟩,(cal c2 y.pos h2 I2 S2 r2).2⟩
      ·unfold callWith
       refine wpAny_bind (wpAny_holding (wpAny_mono (ar _) (fun y s hy=>?_) fun _ _ z=>z.elim))
       obtain ⟨hy,c2,rfl,h2,I2,S2,r2⟩:=hy
       exact absurd (cal c2 y.pos h2 I2 S2 r2).1 hcb
     | _=>exact B2n (x:=evs r f l c.H) (k:=fun _ _=>Option.none) h fun _ _ _ h=>by k_extra "h"
    ·subst hz; subst e0; subst e1
     refine C6u (B9k hg1 _ _ _) hg3 hg4 hg2 ?_
     refine B1p hr ho h X fun c1 v1 u1 X1 r1 S1 h=>?_
     refine prB h fun hk h=>?_
     exact B2n (x:=evs r f l c1.H) (k:=fun vs H=>mcall cx v1 m vs H) h fun vs H2 h2 h pl=>wpAny_mono (D0g (o:=o) (apos:=ap) hr W.hP C L hm hg3 hl hk h2 h X1.I X1.F X1.K r1 pl) (fun _ _ q=>wpAny_mono q (fun _ _ q=>X1.pv q) Mine.idE) Mine.idE
  | Attribute o y p =>
   refine B0a (show cAtt g ly y o = some E' from hc) fun x ex hc=>D6s hc fun hg e' he hcz=>?_
   (clear hc; (obtain ⟨xp,e98⟩:=B0s ex); refine eqQ e98 ?_)
   (clear hc; k_extra "hcz")
   have hy:y = ("lineno" : Str):=by simpa using hg
   refine eqQ hy ?_
   refine B2n (x:=r.ev e' f c.H) (k:=fun i H=>match i with | .ref i=>(match H.get i with | .lex (c :: y) k _=>some (AV.int (lineNo (c :: y) k),H) | _=>Option.none) | _=>Option.none) (by
    (refine eqR h ?_)
    show _ = (match r.ev e' f c.H with | some (.ref i,H)=>(match H.get i with | .lex (c :: y) k _=>some (AV.int (lineNo (c :: y) k),H) | _=>Option.none) | _=>Option.none)
    cases r.ev e' f c.H with
    | none=>rfl
    | some q=>obtain ⟨i,H⟩:=q; cases i <;> rfl) fun i H1 h1 h=>?_
   cases i with
   | ref i =>
    refine Attribute_name (wpAny_mono (hr.ev ly env f c A (n + 1) (.Name x xp) _ _ _ he h1 I F K) (fun u s1 q1=>?_) Mine.idE)
    (clear h1; (obtain ⟨c1,e98,rfl,I1,S1,r1⟩:=q1); refine eqR e98 ?_)
    dsimp only at h
    split at h
    ·revert h; rename _=>q; revert q; rename _=>pb; revert pb; rename _=>kk; revert kk; rename _=>yy; revert yy; rename _=>cc; intro yy kk pb q h
     refine B0j h ?_
     refine C9h r1 fun hi=>?_
     have ro:=I1.rel i hi
     rw [q] at ro
     obtain ⟨_,_,_,pvs,_,hlx⟩:=ro
     exact L.line I1 (K.step S1 (.inl rfl)) hi q (by simp) fun t tk=>(PV.tok I1 (v:=.int (lineNo (cc :: yy) kk)) (u:=.int (lineNo (cc :: yy) kk) t) ⟨t,rfl⟩).after S1 I1
    ·k_extra "h"
   | _=>k_extra "h"
  | ListComp elt gs sc p =>
   cases gs with
   | nil=>k_extra "hc"
   | cons q gs =>
    cases gs with
    | cons=>k_extra "hc"
    | nil =>
     obtain ⟨t,it,ifs,as⟩:=q
     have ha:as = 0:=B0a hc fun q0 hq hc=>by (clear hc; refine B0g hq ?_); exact gdP hc fun hg _=>of_decide_eq_true hg
     (clear h; subst ha)
     simp only [eval_ListComp]
     exact C8k (use:=Option.none) hr W.hP G hc h I F K fun i0 acc C s e x=>by refine eqQ e ?_; exact D1a I x
  | _=>k_extra "hc"
end
end Ab
end
section
open PySem PySem.W PyProof.Rows PySem.Calls PySem.SeqAt
namespace Ab
section
variable {prog:Program} {w:World} {A:Around} {D:Gd} {c:Cfg} {cx:Cx} {g:G} {r:Rn}
theorem C4m (I:Inv D c) {a b v:AV} {gs:List Pc} {u1 u2:Value} (eg:C6h a b = some gs) (hv:pcV gs = some v) (r1:VR D.θ c a u1) (r2:VR D.θ c b u2):wpAny (model prog w) A (inplaceOp .Add u1 u2) (PV D c v c.H) Nev c.s:=by
 obtain ⟨x,y,t1,t2,rfl,rfl,l1,l2,e⟩:=C2o eg r1 r2
 obtain ⟨rfl,hl⟩:=C6g hv
 have hl:=hl D.θ
 rw [e,List.length_append] at hl
 refine SB.iadd (fun t' k=>?_) (by rw [str_len,str_len]; exact Nat.le_trans hl B6w)
 rw [B2l]
 refine PV.tok I ?_
 show SOk (B1o D.θ gs) ∧ _
 rw [e]
 exact ⟨⟨by rw [List.length_append]; exact hl,fun c hc=>(List.mem_append.mp hc).elim (l1.2 c) (l2.2 c)⟩,_,rfl⟩
theorem C7p (I:Inv D c) (C:CxOk D cx) {op:Operator} {o:BOp} (ho:bop op = some o) {a b v:AV} {u1 u2:Value} (h:ibin cx o a b = some v) (r1:VR D.θ c a u1) (r2:VR D.θ c b u2) :
  wpAny (model prog w) A (inplaceOp op u1 u2) (PV D c v c.H) Nev c.s:=by
 have hz3:=B6w
 cases op with
 | Add =>
  cases oYY ho
  refine B1i h (fun gs eg h=>C4m I eg h r1 r2) fun Z h=>B1i h (fun x ex h=>onP h fun y ey h=>prB h fun hl h=>B0m h fun z=>?_) fun Z h=>?_
  ·refine eqQ z ?_
   rw [B4b]
   replace r1:=(B0e ex) ▸ r1
   replace r2:=(B0e ey) ▸ r2
   k_extra "fG"; obtain ⟨s1,t1,rfl⟩:=r1
   obtain ⟨s2,t2,rfl⟩:=r2
   have hl:x.length + y.length ≤ lim:=by rw [← B1n,← B1n]; exact nYY hl
   refine SB.iadd (fun t' k=>?_) (by rw [str_len,str_len]; exact Nat.le_trans hl hz3)
   rw [B2l]
   exact PV.tok I ⟨⟨by (refine eqQ List.length_append ?_); exact hl,fun ch hc=>(List.mem_append.mp hc).elim (s1.2 ch) (s2.2 ch)⟩,_,rfl⟩
  ·(refine D6u (B3c C h r1 r2) fun x y t1 t2 e94 e95 r=>?_; subst e94; subst e95)
   exact P.iadd_int (PV.tok I (r _))
 | Sub =>
  cases oYY ho
  (refine D6u (B3c C h r1 r2) fun x y t1 t2 e94 e95 r=>?_; subst e94; subst e95)
  exact P.isub_int (PV.tok I (r _))
 | Mult =>
  k_extra "fG"; cases oYY ho
  refine onP h fun p hp h=>onP h fun q hq h=>prB h fun hb h=>?_
  (refine C0i (B6k C hp r1) fun x t1 e92 b1=>?_; subst e92)
  (k_extra "fG"; refine C0i (B6k C hq r2) fun y t2 e92 b2=>?_; subst e92)
  (refine D6u (B3c C h r1 r2) fun x' y' t1' t2' e1 e2 r=>?_)
  k_extra "e1"; k_extra "e2"
  exact P.imul_int (PV.tok I (r _)) (C2s b1 b2 (nYY hb))
 | Mod=>cases oYY ho; exact noP h
 | Pow=>cases oYY ho; exact noP h
 | FloorDiv=>cases oYY ho; exact noP h
 | _=>exact noP ho
inductive UnpR (θ:Nat → Int) (prog:Program) (w:World) (A:Around) (env:Env) (c:Cfg) (ly:Ly) (vs:List AV):List (Value → Sem Unit) → List (Nat × Sl) → List Value → Prop
 | nil:UnpR θ prog w A env c ly vs [] [] []
 | cons {st x sl j u sts ls us}:(∀ (Q:Unit → Shared → Prop) (s:Shared) (u:Value),wpAny (model prog w) A (storeName env x u) Q Nev s → wpAny (model prog w) A (st u) Q Nev s) → cSlot ly x = some sl → (∀ v,nth? vs j = some v → VR θ c v u) →
   UnpR θ prog w A env c ly vs sts ls us → UnpR θ prog w A env c ly vs (st :: sts) ((j,sl) :: ls) (u :: us)
theorem UnpR.ext {θ:Nat → Int} {env:Env} {ly:Ly} {vs:List AV} {c':Cfg} (S:Ext c c') {sts:List (Value → Sem Unit)} {ls:List (Nat × Sl)} {us:List Value} (h:UnpR θ prog w A env c ly vs sts ls us):UnpR θ prog w A env c' ly vs sts ls us:=by
 induction h with
 | nil=>exact .nil
 | cons a b d J ih=>exact .cons a b (fun v hv=>(d v hv).ext S) ih
theorem UnpR.append {θ:Nat → Int} {env:Env} {ly:Ly} {vs:List AV} {sts sts':List (Value → Sem Unit)} {ls ls':List (Nat × Sl)} {us us':List Value} (h:UnpR θ prog w A env c ly vs sts ls us) (h':UnpR θ prog w A env c ly vs sts' ls' us'):UnpR θ prog w A env c ly vs (sts ++ sts') (ls ++ ls') (us ++ us'):=by
 induction h with
 | nil=>exact h'
 | cons a b d J ih=>exact .cons a b d ih
theorem UnpR.reverse {θ:Nat → Int} {env:Env} {ly:Ly} {vs:List AV} {sts:List (Value → Sem Unit)} {ls:List (Nat × Sl)} {us:List Value} (h:UnpR θ prog w A env c ly vs sts ls us):UnpR θ prog w A env c ly vs sts.reverse ls.reverse us.reverse:=by
 induction h with
 | nil=>exact .nil
 | cons a b d J ih =>
  simp only [List.reverse_cons,List.reverse_cons,List.reverse_cons]
  exact ih.append (.cons a b d .nil)
theorem D1q {env:Env} {ly:Ly} {vs:List AV} {sts:List (Value → Sem Unit)} {ls:List (Nat × Sl)} {us:List Value} {c:Cfg} {f f':Fm} {H':St} (h:UnpR D.θ prog w A env c ly vs sts ls us) (hu:unpS vs ls f c.H = some (f',H')) (I:Inv D c) (F:FR D c env ly f) :
  wpAny (model prog w) A (assignInOrder sts us) (fun _ s=>f'.dep = f.dep ∧ PF D c env ly f' H' s) Nev c.s:=by
 induction ls generalizing sts us c f with
 | nil =>
  k_extra "h"; refine B0j hu ?_
  exact wpAny_pure ⟨rfl,c,rfl,rfl,I,Stp.refl _ _,F⟩
 | cons l ls ih =>
  cases h with
  | cons a b d h =>
   refine onP hu fun v hv hu=>?_
   refine B2n hu fun f1 H1 h1 hu=>?_
   have rv:=d v hv
   refine wpAny_bind (wpAny_holding (a _ _ _ (wpAny_mono (B3p I F b h1 rv).2 (fun _ s1 q=>?_) Mine.idE)))
   (obtain ⟨c1,e98,rfl,I1,S1,F1⟩:=q; refine eqR e98 ?_)
   refine wpAny_mono (ih (h.ext S1.ext) hu I1 F1) (fun _ s2 q=>?_) Mine.idE
   exact ⟨q.1.trans (B1f h1),q.2.after (f:=f) S1 I1 F⟩
noncomputable def nmE:Expr → Option Str
 | .Name x J=>some x
 | _=>Option.none
theorem B7h {ly:Ly}:∀ {ts:List Expr} {j:Nat} {l:List (Nat × Sl)},D7e ly j ts = some l → l.length = ts.length
 | [],j,l,h=>by refine B0g h ?_; rfl
 | t :: ts,j,l,h=>by
  refine B5d h fun x ex s hs l' hl h=>B0g h ?_
  (obtain ⟨px,e98⟩:=B0s ex; refine eqQ e98 ?_)
  simp [B7h hl]
theorem B6i {env:Env} {ly:Ly} {vs:List AV}:∀ {ts:List Expr} {j:Nat} {l:List (Nat × Sl)} {us:List Value},D7e ly j ts = some l → us.length = ts.length → (∀ i v u,nth? vs (j + i) = some v → us[i]? = some u → VR D.θ c v u) →
  UnpR D.θ prog w A env c ly vs ((assignEach ts env).map (·.2)) l us
 | [],j,l,us,h,hl,hv=>by
  refine B0g h ?_
  cases us with
  | nil=>exact .nil
  | cons=>(first | exact noP hl | exact fT hl | exact absurd hl (fun e=>nomatch e))
 | t :: ts,j,l,us,h,hl,hv=>by
  refine B5d h fun x ex s hs l' hl' h=>B0g h ?_
  (obtain ⟨px,e98⟩:=B0s ex; refine eqQ e98 ?_)
  cases us with
  | nil=>(first | exact noP hl | exact fT hl | exact absurd hl (fun e=>nomatch e))
  | cons u us =>
   refine .cons (fun Q s u h=>wpAny_assign_Name h) hs (fun v hv'=>hv 0 v u hv' rfl) (B6i hl' (by simpa using hl) fun i v u h1 h2=>hv (i + 1) v u ?_ ?_)
   ·(refine eqR h1 ?_); congr 1; exact om47
   ·simpa using h2
theorem B7i {env:Env} {ly:Ly} {vs:List AV}:∀ {ts:List Expr} {j:Nat} {l:List (Nat × Sl)} {us:List Value},D7e ly j ts = some l → us.length = ts.length → (∀ i v u,nth? vs (j + i) = some v → us[i]? = some u → VR D.θ c v u) →
  UnpR D.θ prog w A env c ly vs ((ts.filterMap nmE).map fun n=>bindName env n) l us
 | [],j,l,us,h,hl,hv=>by
  refine B0g h ?_
  cases us with
  | nil=>exact .nil
  | cons=>(first | exact noP hl | exact fT hl | exact absurd hl (fun e=>nomatch e))
 | t :: ts,j,l,us,h,hl,hv=>by
  refine B5d h fun x ex s hs l' hl' h=>B0g h ?_
  (obtain ⟨px,e98⟩:=B0s ex; refine eqQ e98 ?_)
  cases us with
  | nil=>(first | exact noP hl | exact fT hl | exact absurd hl (fun e=>nomatch e))
  | cons u us =>
   refine .cons (fun Q s u h=>wpAny_bindName h) hs (fun v hv'=>hv 0 v u hv' rfl) (B7i hl' (by simpa using hl) fun i v u h1 h2=>hv (i + 1) v u ?_ ?_)
   ·(refine eqR h1 ?_); congr 1; exact om47
   ·simpa using h2
theorem B4a {env:Env} {ly:Ly}:∀ {ts:List Expr} {j:Nat} {l:List (Nat × Sl)},D7e ly j ts = some l → (assignEach ts env).length = ts.length ∧ (assignEach ts env).findIdx? (·.1) = Option.none
 | [],j,l,h=>⟨rfl,rfl⟩
 | t :: ts,j,l,h=>by
  refine B5d h fun x ex s hs l' hl' h=>B0g h ?_
  (obtain ⟨px,e98⟩:=B0s ex; refine eqQ e98 ?_)
  (have h1:=(B4a (env:=env) hl').1; have h2:=(B4a (env:=env) hl').2)
  refine ⟨by show (assignEach ts env).length + 1 = _; (exact eqQ h1 rfl),?_⟩
  show List.findIdx? (·.1) ((false,_) :: assignEach ts env) = Option.none
  (refine eqQ (List.findIdx?_cons) ?_; exact eqQ h2 rfl)
theorem B3d {α β:Type} (f g:α → Option β) (hfg:∀ a b,f a = some b → g a = some b):∀ l:List α,(l.filterMap f).length = l.length → l.filterMap f = l.filterMap g
 | [],J=>rfl
 | a :: l,h=>by
  rw [List.filterMap_cons] at h
  cases hf:f a with
  | none =>
   rw [hf] at h
   have:=List.length_filterMap_le f l
   simp only [List.length_cons] at h
   exact om171 h this
  | some b =>
   rw [hf] at h
   simp only [List.length_cons,Nat.add_right_cancel_iff] at h
   simp only [List.filterMap_cons,List.filterMap_cons,hf,hfg a b hf,B3d f g hfg l h]
noncomputable abbrev nmL (line:Nat) (k:Str → Option NameKind):Expr → Option Str:=fun
 | .Name id pos=>if k id == some .local && pos.line == line then some id else none
 | _=>none
theorem D3x {env:Env} (ts vs:List Expr) (k k2:Nat) (p p2:Pos):swappedStores [.Tuple ts k p] (.Tuple vs k2 p2) env = (
  if !(ts.length == 2 || ts.length == 3) || vs.length != ts.length || env.blockKind != .function then pure none else
  if (vs.any fun | .Starred ..=>true | _=>false) then pure none else
  if (ts.filterMap (nmL ((ts.head?.map (·.pos.line)).getD 0) env.kindOf)).length != ts.length || (ts.filterMap (nmL ((ts.head?.map (·.pos.line)).getD 0) env.kindOf)).eraseDups.length != (ts.filterMap (nmL ((ts.head?.map (·.pos.line)).getD 0) env.kindOf)).length then pure none else
  if vs.all (foldedForSure 8) then pure none else
  if vs.all (constantsAlone 8) then unsupported "assign.tuple-of-constant-expressions:order-of-the-stores" else
  pure (some (ts.filterMap (nmL ((ts.head?.map (·.pos.line)).getD 0) env.kindOf)))):=by
 repeat' (first | rfl | split)
theorem C9o {ly:Ly} (ts vs:List Expr) (k2:Nat) (p2:Pos):C5r ly ts (.Tuple vs k2 p2) = (
  if !(ts.length == 2 || ts.length == 3) || vs.length != ts.length then some false else
  if (ts.filterMap (nmL ((ts.head?.map (·.pos.line)).getD 0) fun x=>ly.sc.lookup x)).length != ts.length || (ts.filterMap (nmL ((ts.head?.map (·.pos.line)).getD 0) fun x=>ly.sc.lookup x)).eraseDups.length != (ts.filterMap (nmL ((ts.head?.map (·.pos.line)).getD 0) fun x=>ly.sc.lookup x)).length then some false else
  if vs.all (foldedForSure 8) then some false else
  if vs.all (constantsAlone 8) then none else some true):=rfl
theorem C5q {env:Env} {ly:Ly} {f:Fm} (F:FR D c env ly f) {ts:List Expr} {k:Nat} {p:Pos} {e:Expr} {b:Bool} (hp:∀ vs k p,e = .Tuple vs k p → vs.all B0z = true) (h:C5r ly ts e = some b) :
  swappedStores [.Tuple ts k p] e env = pure (if b then some (ts.filterMap nmE) else none) ∧ (b = true → (ts.filterMap nmE).length = ts.length):=by
 have other:(∀ vs k p,e ≠ .Tuple vs k p) → swappedStores [.Tuple ts k p] e env = pure none ∧ C5r ly ts e = some false:=by
  intro h
  k_extra "e" <;> first | exact ⟨rfl,rfl⟩ | exact absurd rfl (h _ _ _)
 by_cases ht:∃ vs k p,e = .Tuple vs k p
 ·obtain ⟨vs,k2,p2,rfl⟩:=ht
  have hpl:=hp vs k2 p2 rfl
  rw [D3x]
  rw [C9o] at h
  have hk:(fun x=>ly.sc.lookup x) = env.kindOf:=by funext x; exact (B1c F x).symm
  rw [hk] at h
  have hbk:(env.blockKind != ScopeKind.function) = false:=by unfold Env.blockKind; rw [F.kind]; rfl
  have hst:(vs.any fun | .Starred ..=>true | _=>false) = false:=by
   rw [List.any_eq_false]
   intro x hx
   have:=List.all_eq_true.mp hpl x hx
   k_extra "x" <;> first | exact Bool.noConfusion this | simp
  rw [hbk,hst,Bool.or_false]
  rw [if_neg Bool.false_ne_true]
  split at h
  ·revert h; rename _=>q; intro h; k_extra "h"; rw [if_pos q]; exact ⟨rfl,fun z=>by k_extra "z"⟩
  ·revert h; rename _=>q; intro h
   rw [if_neg q]
   split at h
   ·revert h; rename _=>q2; intro h; k_extra "h"; rw [if_pos q2]; exact ⟨rfl,fun z=>by k_extra "z"⟩
   ·revert h; rename _=>q2; intro h
    rw [if_neg q2]
    split at h
    ·revert h; rename _=>q3; intro h; k_extra "h"; rw [if_pos q3]; exact ⟨rfl,fun z=>by k_extra "z"⟩
    ·revert h; rename _=>q3; intro h
     rw [if_neg q3]
     split at h
     ·k_extra "h"
     ·revert h; rename _=>q4; intro h
      k_extra "h"
      rw [if_neg q4]
      simp only [Bool.or_eq_true,not_or,bne_iff_ne,ne_eq,Decidable.not_not] at q2
      have e1:=B3d (nmL ((ts.head?.map (·.pos.line)).getD 0) env.kindOf) nmE (fun a b hab=>by
       k_extra "a" <;> first | (simp only [nmL] at hab; split at hab <;> first | exact hab | k_extra "hab") | k_extra "hab") ts q2.1
      rw [e1] at q2 ⊢
      exact ⟨rfl,fun _=>q2.1⟩
 ·obtain ⟨h1,h2⟩:=other fun vs k p q=>ht ⟨vs,k,p,q⟩
  rw [h2] at h
  k_extra "h"
  exact ⟨h1,fun z=>by k_extra "z"⟩
end
end Ab
end
section
open PySem PySem.W PyProof.Rows PySem.Calls PySem.SeqAt
namespace Ab
section
variable {prog:Program} {w:World} {A:Around} {D:Gd} {c:Cfg} {cx:Cx} {g:G} {r:Rn}
theorem XP.nxt {env:Env} {ly:Ly} {f f':Fm} {H:St} {s:Shared} (hd:f'.dep = f.dep) (h:PF D c env ly f' H s):XP D c env ly f .nxt f' H .next s:=by
 k_extra "fG"; obtain ⟨c',a,b,I',S',F'⟩:=h
 exact ⟨hd,c',a,b,I',S',F',rfl⟩
theorem C0x (I:Inv D c) {env:Env} {ly:Ly} {f:Fm} (F:FR D c env ly f) {x:Str} {sl:Sl} {v:AV} (hc:cSlot ly x = some sl) (h:slV sl f c.H = some v):wpAny (model prog w) A (loadName env x) (PV D c v c.H) Nev c.s:=by
 k_extra "fG"; refine D3e hc (fun hk hc=>?_) fun hk hc=>?_
 ·(refine B0o (Option.map_eq_some_iff.mp hc) fun i hi e92=>?_; (clear hc; subst e92))
  (refine B0o F.ns fun m hm hl=>?_)
  (refine B0o (hl i x v hi (B1h h)) fun u hu ru=>?_)
  exact wpAny_loadName_local F.kind (by rw [B1c F]; exact hk) hm hu (PV.same I ru)
 ·(refine B0o (Option.map_eq_some_iff.mp hc) fun j hj e92=>?_; (clear hc; (clear hc; subst e92)))
  (refine B0o (B6c h) fun id hid q=>?_)
  obtain ⟨hn,hl⟩:=F.cel x j id hj hid
  (refine D3n (B8p I hn q) fun o u e d hr ho=>?_)
  (refine B0o (hr _ rfl) fun y e91 ry=>?_; (clear hr; subst e91))
  exact wpAny_loadName_cell F.kind (by rw [B1c F]; exact hk) hl ⟨o,ho,d⟩ (PV.same I ry)
theorem D6e (I:Inv D c) {env:Env} {ly:Ly} {f f':Fm} (F:FR D c env ly f) {x:Str} {px:Pos} {sl:Sl} {i0:Nat} {H H':St} {acc:Value} {C:Addr} {s:Shared} (hs:cSlot ly x = some sl) (hp:C0o sl (.ref i0) f H = some (f',H')) (X:CP D c i0 H acc C s) :
  compPost (model prog w) A Nev (some (assign (.Name x px) env)) (fun J s=>XP D c env ly f .nxt f' H' .next s) acc C (.ok .next) s:=by
 (obtain ⟨c1,rfl,rfl,I1,S1,e98,n1,⟨m,hm⟩,dC,uC⟩:=X; refine eqQ e98 ?_)
 have F1:=F.mono S1
 show wpAny (model prog w) A (assign (.Name x px) env _) (fun J s''=>∃ m,s''.heap.Ns C m ∧ ∀ h',Heap.SameBut C s''.heap h' → XP D c env ly f .nxt f' H' .next { s'' with heap:=h' }) Nev c1.s
 refine wpAny_assign_Name (wpAny_mono (B3p I1 F1 hs hp (show VR D.θ c1 (.ref i0) (.ref (c1.mu i0)) from ⟨n1,rfl⟩)).2 (fun J s2 q=>?_) Mine.idE)
 (obtain ⟨c2,rfl,e98,I2,S2,F2⟩:=q; refine eqR e98 ?_)
 obtain ⟨oC,hoC⟩:=Ns.live hm
 have ne:env.locals ≠ C:=by
  rintro rfl
  k_extra "fG"; (refine B0o F.ns fun mL hmL _=>?_)
  obtain ⟨oL,hoL⟩:=Ns.live hmL
  rw [dC] at hoL; cases hoL
 refine ⟨m,(S2.keep C oC hoC uC (fun z=>ne (oYY z))).ns hoC hm,fun h' hs'=>?_⟩
 k_extra "fG"; have hb:=(B1y I dC).2
 obtain ⟨I3,S3⟩:=upE (Z:=fun b=>b = C) (s':={ c2.s with heap:=h' }) I2 (fun b o z e=>(hs'.2 b z).trans e) (fun b z=>by refine eqQ z ?_; exact ⟨S2.trk hoC uC,hb⟩) I2.gens rfl rfl
 have S02:Stp (some env.locals) c c2:=(F.weak S1).trans S2 I1 F.nsx
 have F3:=F2.monoE S3 ne
 refine .nxt (B1f hp) ⟨c2.up { c2.s with heap:=h' },rfl,rfl,I3,StpE.close S02 S3 I2 (fun a z=>.inl (by have z:a = C:=z; (refine eqQ z ?_); exact dC)) (fun L q=>?_),F3⟩
 refine B0g q ?_
 have n3:=F3.nsx
 exact ⟨F.nsx _ rfl,n3 _ rfl⟩
theorem C6o {n:Nat} {ly:Ly} {e:Expr} {E':E} (h:cE g n ly e = some E'):(∀ elt gens sc p,e ≠ .ListComp elt gens sc p) → ∀ (t:Option Expr) (l:Nat) (env:Env),t ≠ Option.none → swapsWith e t l env = pure false:=by
 intro hl t l env ht
 cases t with
 | none=>exact absurd rfl ht
 | some t =>
  cases n with
  | zero=>k_extra "h"
  | succ n =>
   k_extra "e" <;> first
    | rfl
    | exact absurd rfl (hl _ _ _ _)
    | k_extra "h"
theorem F0u (hr:RnOk prog w D g r) {ly:Ly} {env:Env} {f f':Fm} {n:Nat} {x:Str} {p pos:Pos} {e:Expr} {sl:Sl} {E':E} {v:AV} {H H':St} (hs:cSlot ly x = some sl) (hE:cE g n ly e = some E') (h:r.ev E' f c.H = some (v,H)) (hp:C0o sl v f H = some (f',H'))
  (I:Inv D c) (F:FR D c env ly f) (K:AOk D A f.dep c env):wpAny (model prog w) A (exec (.Assign [.Name x p] e pos) env) (XP D c env ly f .nxt f' H') Nev c.s:=by
 have plain:swapsWith e (some (.Name x p)) pos.line env = pure false → wpAny (model prog w) A (exec (.Assign [.Name x p] e pos) env) (XP D c env ly f .nxt f' H') Nev c.s:=by
  intro hsw
  refine wpAny_Assign_Name (wpAny_mono (hr.ev ly env f c A n e E' v H hE h I F K) (fun u s1 q=>?_) Mine.idE) hsw
  k_extra "fG"; (clear h; obtain ⟨c1,rfl,rfl,I1,S1,r1⟩:=q)
  exact wpAny_mono (B3p I1 (F.mono S1) hs hp r1).2 (fun Z s2 q=>.nxt (B1f hp) (q.after (f:=f) (F.weak S1) I1 F)) Mine.idE
 by_cases hl:∃ elt gens sc q,e = .ListComp elt gens sc q
 ·obtain ⟨elt,gens,sc,q,rfl⟩:=hl
  have hsw:swapsWith (.ListComp elt gens sc q) (some (.Name x p)) pos.line env = pure (env.blockKind == .function && env.kindOf x == some .local && p.line == q.line && !(sc.names.any fun (n,k)=>n == x && (k == .local || k == .cell))):=rfl
  cases hb:(env.blockKind == .function && env.kindOf x == some .local && p.line == q.line && !(sc.names.any fun (n,k)=>n == x && (k == .local || k == .cell))) with
  | false=>replace hsw:=hb ▸ hsw; exact plain hsw
  | true =>
   replace hsw:=hb ▸ hsw
   (refine eqQ (exec_Assign_Name_used _ _ _ _ hsw) ?_)
   have hg:∃ t it ifs,gens = [⟨t,it,ifs,0⟩]:=by
    cases n with
    | zero=>k_extra "hE"
    | succ n =>
     cases gens with
     | nil=>k_extra "hE"
     | cons q gs =>
      cases gs with
      | cons=>k_extra "hE"
      | nil =>
       obtain ⟨t,it,ifs,as⟩:=q
       have ha:as = 0:=B0a hE fun q0 hq hc=>by k_extra "hq"; exact gdP hc fun hg Z=>of_decide_eq_true hg
       refine eqR ha ?_
       exact ⟨_,_,_,rfl⟩
   k_extra "fG"; (refine x3a1 hg fun t it ifs e93=>?_; (clear hg; subst e93))
   refine wpAny_bind (wpAny_standAt (wpAny_bind ?_))
   show wpAny _ A (do let _ ← comprehension (.ListComp elt [⟨t, it, ifs, 0⟩] sc q) sc env _ (newList []) false (eval it env) (some (assign (.Name x p) env))) _ _ _
   refine wpAny_bind (wpAny_mono (hr.cm ly env f c A n elt t it ifs sc q _ E' v H (some (assign (.Name x p) env)) (fun Z s=>XP D c env ly f .nxt f' H' .next s) hE h I F K fun i0 acc C s hv X=>?_) (fun Z s q=>wpAny_pure (wpAny_pure q)) Mine.idE)
   (clear h; subst hv)
   exact D6e I F hs hp X
 ·exact plain (C6o hE (fun a b c d q=>hl ⟨a,b,c,d,q⟩) _ _ _ (by simp))
theorem D3p (hr:RnOk prog w D g r) {ly:Ly} {env:Env} {f f':Fm} {n k:Nat} {p pos:Pos} {ts:List Expr} {e:Expr} {l:List (Nat × Sl)} {b:Bool} {E':E} {i:Nat} {H H':St} {vs:List AV} (hl:D7e ly 0 ts = some l) (hb:C5r ly ts e = some b) (hE:cE g n ly e = some E')
  (hn:∀ a b c d,e ≠ .ListComp a b c d) (h:r.ev E' f c.H = some (.ref i,H)) (hg:H.get i = .tup vs) (hlen:vs.length = l.length) (hu:unpS vs (if b then l.reverse else l) f H = some (f',H'))
  (I:Inv D c) (F:FR D c env ly f) (K:AOk D A f.dep c env):wpAny (model prog w) A (exec (.Assign [.Tuple ts k p] e pos) env) (XP D c env ly f .nxt f' H') Nev c.s:=by
 have hsw:swapsWithSole [.Tuple ts k p] e pos.line env = pure false:=C6o hE hn (some (.Tuple ts k p)) pos.line env (by simp)
 have hex : exec (.Assign [.Tuple ts k p] e pos) env = (do
   standAt pos
   if ← swapsWithSole [.Tuple ts k p] e pos.line env then do
    evalThenUse e env fun v=>assignAll v ((assignEach [.Tuple ts k p] env).map (·.2))
    pure .next
   else do
    let v ← eval e env
    assignStores env v (← swappedStores [.Tuple ts k p] e env) ((assignEach [.Tuple ts k p] env).map (·.2))):=rfl
 (refine eqQ hex ?_; refine eqQ hsw ?_)
 refine wpAny_bind (wpAny_standAt (wpAny_bind (wpAny_pure ?_)))
 (refine eqQ (if_neg Bool.false_ne_true) ?_)
 refine wpAny_bind (wpAny_mono (hr.ev ly env f c A n e E' _ H hE h I F K) (fun u s1 q=>?_) Mine.idE)
 ((clear h; obtain ⟨c1,e98,rfl,I1,S1,r1⟩:=q); refine eqR e98 ?_)
 refine C9h r1 fun hi=>?_
 have hh:=K.handled
 obtain ⟨_,us,kk,_,rs,ho⟩:=I1.tup hi hg
 have hT:=B3v ho
 have F1:=F.mono S1
 have hul:us.length = ts.length:=by (refine eqR rs.length ?_; refine eqQ hlen ?_; exact eqQ (B7h hl) rfl)
 have hp:∀ vs k p,e = .Tuple vs k p → vs.all B0z = true:=by
  rintro vs k p rfl
  cases n with
  | zero=>k_extra "hE"
  | succ n =>
   exact gdP hE fun hg Z=>hg
 (have hsp:=(C5q (k:=k) (p:=p) F hp hb).1; have hnm:=(C5q (k:=k) (p:=p) F hp hb).2)
 have val:∀ {c':Cfg},Ext c1 c' → ∀ i v u,nth? vs (0 + i) = some v → us[i]? = some u → VR D.θ c' v u:=fun S i v u h1 h2=>by
  (refine B0o (rs.get h1) fun u' h3 h4=>?_)
  rw [Nat.zero_add,h2] at h3
  refine eqQ (oYY h3) ?_
  exact h4.ext S
 have up:∀ {h':Heap},Heap.ExtBut c1.s.heap.objs.size c1.s.heap h' → Inv D (c1.up { c1.s with heap:=h' }) ∧ Stp Option.none c1 (c1.up { c1.s with heap:=h' }):=fun hx=>B3m I1 (fun b o e=>hx b o (Nat.ne_of_lt (Heap.lt_size e)) e) I1.gens rfl rfl
 (refine eqQ hsp ?_)
 refine wpAny_bind (wpAny_pure ?_)
 cases b with
 | false =>
  show wpAny (model prog w) A (do assign (.Tuple ts k p) env (.ref (c1.mu i)); pure Flow.next) _ _ _
  refine wpAny_bind ?_
  (have q1:=(B4a (env:=env) hl).1; have q2:=(B4a (env:=env) hl).2)
  refine wpAny_assign_Tuple hh hT (by (refine eqQ q1 ?_); simp [hul]) q2 fun h' hx=>?_
  (have I2:=(up hx).1; have S2:=(up hx).2)
  refine wpAny_mono (D1q (c:=c1.up { c1.s with heap:=h' }) (B6i (vs:=vs) hl hul (val S2.ext)) hu I2 (F1.mono S2)) (fun Z s2 q=>wpAny_pure (.nxt q.1 ?_)) Mine.idE
  have S02:=S1.trans S2 I1 (fun Z q=>by k_extra "q")
  exact q.2.after (f:=f) (F.weak S02) I2 F
 | true =>
  k_extra "fG"; show wpAny (model prog w) A (do
   rule "assign.swapped-stores"
   let items ← unpackItems (.ref (c1.mu i)) (ts.filterMap nmE).length Option.none
   assignInOrder ((ts.filterMap nmE).reverse.map fun n=>bindName env n) items.reverse
   pure Flow.next) _ _ _
  (refine eqQ (hnm rfl) ?_; refine eqQ (show ts.length = us.toArray.size by simp [hul]) ?_)
  k_extra "fG"; refine wpAny_bind (wpAny_rule (wpAny_bind (wpAny_unpackItems_tuple hh hT fun h' hx=>?_)))
  (have I2:=(up hx).1; have S2:=(up hx).2)
  (refine eqQ List.map_reverse ?_)
  refine wpAny_bind (wpAny_mono (D1q (c:=c1.up { c1.s with heap:=h' }) (B7i (vs:=vs) hl hul (val S2.ext)).reverse hu I2 (F1.mono S2)) (fun Z s2 q=>wpAny_pure (.nxt q.1 ?_)) Mine.idE)
  have S02:=S1.trans S2 I1 (fun Z q=>by k_extra "q")
  exact q.2.after (f:=f) (F.weak S02) I2 F
end
end Ab
end
section
set_option backward.match.sparseCases false
open PySem PySem.W PyProof.Rows PySem.Calls PySem.SeqAt
namespace Ab
section
variable {prog:Program} {w:World} {A:Around} {D:Gd} {c:Cfg} {cx:Cx} {g:G} {r:Rn}
theorem C7j {e:Expr} (h:D2j e = true):∃ fe as kw q,e = .Call fe as kw q:=by
 k_extra "fG"; k_extra "e" <;> first | exact ⟨_,_,_,_,rfl⟩ | exact absurd h Bool.false_ne_true
theorem C9z {e:Expr} (h:D8m e = true):∀ a b c d,e ≠ .ListComp a b c d:=by
 rintro _ _ _ _ rfl; exact absurd h Bool.false_ne_true
structure At (D:Gd) (A:Around) (env:Env) (ly:Ly) (c0:Cfg) (f0:Fm) (c:Cfg) (f:Fm):Prop where
 I:Inv D c
 S:Stp (some env.locals) c0 c
 F:FR D c env ly f
 K:AOk D A f.dep c env
 d:f.dep = f0.dep
 n:∀ L,some env.locals = some L → ∃ m,c0.s.heap.Ns L m
theorem At.start {env:Env} {ly:Ly} {f:Fm} (I:Inv D c) (F:FR D c env ly f) (K:AOk D A f.dep c env):At D A env ly c f c f:=⟨I,Stp.refl _ _,F,K,rfl,F.nsx⟩
theorem At.up {env:Env} {ly:Ly} {f f0:Fm} {c0 c1:Cfg} (X:At D A env ly c0 f0 c f) (I1:Inv D c1) (S1:Stp none c c1):At D A env ly c0 f0 c1 f :=
 ⟨I1,X.S.trans (X.F.weak S1) X.I X.n,X.F.mono S1,X.K.step S1 (.inl rfl),X.d,X.n⟩
theorem At.put {env:Env} {ly:Ly} {f f0 f1:Fm} {c0 c1:Cfg} (X:At D A env ly c0 f0 c f) (I1:Inv D c1) (S1:Stp (some env.locals) c c1) (F1:FR D c1 env ly f1) (d:f1.dep = f.dep):At D A env ly c0 f0 c1 f1 :=
 ⟨I1,X.S.trans S1 X.I X.n,F1,by (refine eqQ d ?_); exact X.K.step S1 (.inr rfl),d.trans X.d,X.n⟩
theorem At.nxt {env:Env} {ly:Ly} {f f0:Fm} {c0:Cfg} (X:At D A env ly c0 f0 c f):XP D c0 env ly f0 .nxt f c.H .next c.s:=⟨X.d,c,rfl,rfl,X.I,X.S,X.F,rfl⟩
theorem At.ret {env:Env} {ly:Ly} {f f0:Fm} {c0:Cfg} {v:AV} {u:Value} (X:At D A env ly c0 f0 c f) (r:VR D.θ c v u):XP D c0 env ly f0 (.ret v) f c.H (.ret u) c.s:=⟨X.d,c,rfl,rfl,X.I,X.S,X.F,u,rfl,r⟩
theorem At.xp {env:Env} {ly:Ly} {f f0 f':Fm} {c0:Cfg} {fl:Flo} {H:St} {fw:Flow} {s:Shared} (X:At D A env ly c0 f0 c f) (h:XP D c env ly f fl f' H fw s):XP D c0 env ly f0 fl f' H fw s:=by
 k_extra "fG"; obtain ⟨hd,c1,a,b,I1,S1,F1,r⟩:=h
 exact ⟨hd.trans X.d,c1,a,b,I1,X.S.trans S1 X.I X.n,F1,r⟩
section
variable {c0:Cfg} {ly:Ly} {env:Env} {f f0 f':Fm} {n:Nat} {fl:Flo} {H:St} {γ:Type} {y:γ} {E:Value → Shared → Prop}
theorem tsT (hr:RnOk prog w D g r) {e:Expr} {E':Ab.E} (hc:cE g n ly e = some E') {k1 k0:St → Option γ} {Q:Bool → Shared → Prop}
  (h:@Option.rec (Bool × St) (fun _=>Option γ) Option.none (@Prod.rec Bool St (fun _=>Option γ) fun b H=>@Bool.rec (fun _=>Option γ) (k0 H) (k1 H) b) (r.ts E' f c.H) = some y) (X:At D A env ly c0 f0 c f)
  (q1:∀ c1,At D A env ly c0 f0 c1 f → k1 c1.H = some y → Q true c1.s) (q0:∀ c1,At D A env ly c0 f0 c1 f → k0 c1.H = some y → Q false c1.s) :
  wpAny (model prog w) A (isTrue e env (eval e env)) Q E c.s :=
 D1t hr hc h (Ax.start X.I X.F X.K) (fun c1 X1 h=>q1 c1 (X.up X1.I X1.S) h) fun c1 X1 h=>q0 c1 (X.up X1.I X1.S) h
theorem evT (hr:RnOk prog w D g r) {e:Expr} {E':Ab.E} (hc:cE g n ly e = some E') {k:AV → St → Option γ} {Q:Value → Shared → Prop}
  (h:@Option.rec (AV × St) (fun _=>Option γ) Option.none (@Prod.rec AV St (fun _=>Option γ) k) (r.ev E' f c.H) = some y) (X:At D A env ly c0 f0 c f)
  (q:∀ c1 v u,At D A env ly c0 f0 c1 f → VR D.θ c1 v u → k v c1.H = some y → Q u c1.s):wpAny (model prog w) A (eval e env) Q E c.s :=
 B1p hr hc h (Ax.start X.I X.F X.K) fun c1 v u X1 r1 S1 h=>q c1 v u (X.up X1.I S1) r1 h
theorem xpT {α:Type} {T:Sem Flow} {fl:Flo} {f1:Fm} {H1:St} {Q:Flow → Shared → Prop} (h:wpAny (model prog w) A T (XP D c env ly f fl f1 H1) Nev c.s) (X:At D A env ly c0 f0 c f)
  (q1:∀ c1,fl = .nxt → c1.H = H1 → At D A env ly c0 f0 c1 f1 → Q .next c1.s) (q0:∀ c1 v u,fl = .ret v → c1.H = H1 → At D A env ly c0 f0 c1 f1 → VR D.θ c1 v u → Q (.ret u) c1.s):wpAny (model prog w) A T Q E c.s :=
 wpAny_mono h (fun fw s1 h=>by
  obtain ⟨e,c1,a,b,I1,S1,F1,z⟩:=h
  refine eqR a ?_
  cases fl with
  | nxt=>refine eqQ z ?_; exact q1 c1 rfl b (X.put I1 S1 F1 e)
  | ret v=>(refine B0o z fun u z ru=>?_); refine eqQ z ?_; exact q0 c1 v u rfl b (X.put I1 S1 F1 e) ru) fun Z Z z=>z.elim
end
inductive ForI (D:Gd) (r:Rn) (t:Tg) (k:Nat) (b':List S) (it:It) (fl:Flo) (f':Fm) (H:St) (env:Env) (ly:Ly) (f0:Fm) (c1:Cfg) (p:Addr × Addr) (m:Nat) (s:Shared):Prop
 | mk (i:Nat) (f1:Fm) (c2:Cfg) (hs:c2.s = s) (h:frT r t k b' it m i f1 c2.H = some (fl,f',H)) (hd:f1.dep = f0.dep) (I:Inv D c2) (S:StpD (Zf p env.locals) c1 c2) (F:FR D c2 env ly f1) (X:ItR D c2 k it i p c2.s)
noncomputable def ExAt (prog:Program) (w:World) (D:Gd) (g:G) (r:Rn) (S':List S):Prop:=∀ (ly:Ly) (env:Env) (f:Fm) (c:Cfg) (A:Around) (n:Nat) (ss:List Stmt) (fl:Flo) (f':Fm) (H:St),cSs g n ly ss = some S' → r.ex S' f c.H = some (fl,f',H) → Inv D c → FR D c env ly f → AOk D A f.dep c env → wpAny (model prog w) A (execs ss env) (XP D c env ly f fl f' H) Nev c.s
theorem D2o (hr:RnOk prog w D g r) {r2:Rn} (hP:D.P = w.params) (G:GlobOk prog w D g) {ly:Ly} {env:Env} {f0 f':Fm} {n k m:Nat} {pos:Pos} {target iter:Expr} {body:List Stmt} {it':E} {t:Tg} {b':List S} {fl:Flo} {it:It} {H1 H:St} (hsrc:F0o g ly (cE g n ly) iter = some (k,it')) (ht:cTg ly target = some t) (hb:cSs g n ly body = some b') (hx:ExAt prog w D g r2 b')
  (h1:C4j r k it' f0 c.H = some (it,H1)) (h:frT r2 t k b' it m 0 f0 H1 = some (fl,f',H)) (I:Inv D c) (F:FR D c env ly f0) (K:AOk D A f0.dep c env):wpAny (model prog w) A (exec (.For target iter body [] pos) env) (XP D c env ly f0 fl f' H) Nev c.s:=by
 obtain ⟨hs,hw⟩:=D1v hr hP G hsrc h1 I F K
 refine wpAny_For (wpAny_mono hw (fun x s1 hx=>wpAny_mono hx (fun itv s2 h2=>?_) Mine.idE) Mine.idE) hs
 ((clear hw; (clear hx; (clear h1; obtain ⟨p,c1,e98,rfl,rfl,I1,S1,X1,Z1⟩:=h2))); refine eqQ e98 ?_)
 have F1:=F.mono S1
 have hh:=K.handled
 refine codeAny_forLoop_any (ForI D r2 t k b' it fl f' H env ly f0 c1 p) ?_ m ⟨0,f0,c1,rfl,h,rfl,I1,StpD.refl _ _,F1,X1⟩
 have stp:∀ {c2:Cfg} {f2:Fm},FR D c2 env ly f2 → StpE (Zf p env.locals) c1 c2 → Stp (some env.locals) c c2:=fun F2 T=>StpE.close (F.weak S1) T I1 (fun a z=>by
  rcases z with z | rfl
  ·exact .inl (Z1 a z)
  ·exact .inr rfl) (fun L q=>by
   refine B0g q ?_
   have n2:=F2.nsx
   exact ⟨F.nsx _ rfl,n2 _ rfl⟩)
 rintro m s ⟨i,f1,c2,rfl,h,hd,I2,S2,F2,X2⟩
 cases m with
 | zero=>k_extra "h"
 | succ m =>
  refine (let fE:=_; let fQ:=_; (?_:wpAny _ _ _ fQ fE _))
  k_extra "fG"; refine onP h fun o hi h=>B1i h (fun v ev h=>B2n h fun f3 H3 hp h=>?_) fun eo h=>?_
  ·replace hi:=ev ▸ hi
   (have hd3:=(B7l (prog:=prog) (w:=w) I2 hP hh F2 X2 ht hi hp).1; have htn:=(B7l (prog:=prog) (w:=w) I2 hP hh F2 X2 ht hi hp).2)
   refine wpAny_mono htn (fun o s1 ho=>?_) fun Z Z z=>z.elim
   (clear hp; obtain ⟨u,rfl,ho⟩:=ho)
   refine wpAny_mono ho (fun Z s2 h2=>wpAny_mono h2 (fun Z s3 h3=>?_) fun Z Z z=>z.elim) fun Z Z z=>z.elim
   ((clear htn; (clear ho; (clear h2; obtain ⟨c3,e98,rfl,I3,S3,F3,X3⟩:=h3))); refine eqR e98 ?_)
   have S3':=S2.trans S3 I2
   k_extra "fG"; have S03:=stp F3 S3'.e
   have K3:AOk D A f3.dep c3 env:=by (refine eqQ hd3 ?_; refine eqQ hd ?_); exact K.step S03 (.inr rfl)
   refine D2n h (fun f4 H4 h4 h=>?_) fun v4 f4 H4 h4 h=>?_
   ·refine wpAny_mono (hx ly env f3 c3 A n body _ _ _ hb h4 I3 F3 K3) (fun fw s4 hq=>?_) fun Z Z z=>z.elim
    (obtain ⟨hd4,c4,e98,rfl,I4,S4,F4,rfl⟩:=hq; refine eqR e98 ?_)
    have n3:=F3.nsx
    k_extra "fG"; refine ⟨m,Nat.lt_succ_self m,i + 1,f4,c4,rfl,h,hd4.trans (hd3.trans hd),I4,S3'.trans (S4.d I4 fun L q=>?_) I3,F4,X3.step S4 (n3 _ rfl)⟩
    refine B0g q ?_
    exact ⟨.inr rfl,n3 _ rfl⟩
   ·k_extra "h"
    refine wpAny_mono (hx ly env f3 c3 A n body _ _ _ hb h4 I3 F3 K3) (fun fw s4 hq=>?_) fun Z Z z=>z.elim
    (obtain ⟨hd4,c4,rfl,e98,I4,S4,F4,u,rfl,ru⟩:=hq; refine eqR e98 ?_)
    exact ⟨hd4.trans (hd3.trans hd),c4,rfl,rfl,I4,S03.trans S4 I3 F.nsx,F4,u,rfl,ru⟩
  ·replace hi:=eo ▸ hi
   k_extra "fG"; cases oYY h
   k_extra "fG"; refine wpAny_mono (D2u I2 hP hh X2 hi) (fun o s1 ho=>?_) fun Z Z z=>z.elim
   obtain ⟨rfl,c3,rfl,h3,I3,S3,F3⟩:=ho
   have F3:=F3 F2
   exact wpAny_execs_nil ⟨hd,c3,rfl,h3,I3,stp F3 (S2.transE (S3.weak fun a z=>.inl z) I2),F3,rfl⟩
theorem VRs.set {θ:Nat → Int} {l:List AV} {vs:List Value} (h:VRs θ c l vs) {v:AV} {u:Value} (r:VR θ c v u):∀ {k:Nat},VRs θ c (D2i l k v) (vs.set k u):=by
 induction h with
 | nil=>intro k; exact .nil
 | cons r1 rs ih =>
  intro k
  cases k with
  | zero=>exact .cons r rs
  | succ k=>exact .cons r1 ih
theorem VRs.at {θ:Nat → Int} {l:List AV} {vs:List Value} (h:VRs θ c l vs):∀ {k:Nat} {v:AV},nth? l k = some v → k < vs.length ∧ ∃ u,vs[k]? = some u ∧ VR θ c v u:=by
 induction h with
 | nil=>intro k v e; exact noP e
 | cons r1 rs ih =>
  intro k v e
  cases k with
  | zero=>have z:=oYY e; subst z; exact ⟨Nat.succ_pos _,_,rfl,r1⟩
  | succ k =>
   obtain ⟨h1,u,h2,h3⟩:=ih (k:=k) (v:=v) e
   exact ⟨Nat.succ_lt_succ h1,u,by rw [List.getElem?_cons_succ]; exact h2,h3⟩
theorem C2u {α:Type}:∀ (l:List α) (k:Nat) (v:α),(D2i l k v).length = l.length
 | [],k,v=>rfl
 | a :: l,0,v=>rfl
 | a :: l,k + 1,v=>congrArg Nat.succ (C2u l k v)
theorem D4d (I:Inv D c) {i k:Nat} (hi:i < c.H.n) {l:List AV} {x v:AV} (q:c.H.get i = .list l) (hx:nth? l k = some x) (h9:l.length ≤ 900) {t:Tok} {u:Value} (r:VR D.θ c v u) :
  wpAny (model prog w) A (setItem (.ref (c.mu i)) (.int (k:Nat) t) u) (fun _ s=>PV D c .none (c.H.set i (.list (D2i l k v))) .none s) Nev c.s:=by
 obtain ⟨hl,vs,n,e,rs,ho⟩:=I.list hi q
 obtain ⟨hk,u0,_,_⟩:=rs.at hx
 have hlen:=rs.length
 refine ki_setAt ho (Int.natCast_nonneg _) (by omega) (by rw [List.size_toArray]; omega) ?_
 have z:=PySem.IsL.update ho (·.setIfInBounds ((k:Nat):Int).toNat u)
 have e1:(vs.toArray.setIfInBounds ((k:Nat):Int).toNat u) = (vs.set k u).toArray:=by simp
 rw [e1] at z
 exact PV.put (tk:=c.s.toks) I hi e (Heap.SameBut.update ..) z ⟨by rw [C2u]; exact hl,vs.set k u,_,rfl,rs.set r⟩ rfl
theorem C9s {t:Expr} {q:Expr × Expr} (h:sbO t = some q):∃ p,t = .Subscript q.1 q.2 p:=by
 have k:=C8b t
 unfold sbO at h
 cases z:ev t with
 | sb o i p=>rw [z] at h k; exact ⟨p,oYY h ▸ k⟩
 | _=>rw [z] at h; exact noP h
theorem B9s {ly:Ly} {x:Str} {i:Nat} (h:F1l ly x = some i):cSlot ly x = some (.loc i):=by
 unfold F1l at h
 cases z:cSlot ly x with
 | none=>rw [z] at h; exact noP h
 | some s=>cases s with
  | loc j=>rw [z] at h; exact congrArg (fun k=>some (Sl.loc k)) (oYY h)
  | cel j=>rw [z] at h; exact noP h
theorem C2z {o i:AV} {H:St} {p:Nat × List AV × Nat × AV} (h:itL o i H = some p):o = .ref p.1 ∧ H.get p.1 = .list p.2.1 ∧ i = .int (.ofNat p.2.2.1) ∧ p.2.1.length ≤ 900 ∧ nth? p.2.1 p.2.2.1 = some p.2.2.2 :=
 onP h fun q hq h=>onP h fun k hk h=>prB h fun hb h=>onP h fun x hx h=>by
  have z:=oYY h
  subst z
  exact ⟨(B0k hq).1,(B0k hq).2,B9n hk,leL hb,hx⟩
theorem D2q (hr:RnOk prog w D g r) (W:Wd prog w D cx g) {ly:Ly} {env:Env} {f f':Fm} {n:Nat} {st:Stmt} {S':S} {fl:Flo} {H:St} (hc:cS g n ly st = some S') (h:exS cx r S' f c.H = some (fl,f',H)) (I:Inv D c) (F:FR D c env ly f) (K:AOk D A f.dep c env) :
  wpAny (model prog w) A (exec st env) (XP D c env ly f fl f' H) Nev c.s:=by
 have C:=W.C
 have X:=At.start I F K
 cases n with
 | zero=>k_extra "hc"
 | succ n =>
  cases st with
  | Expr e p =>
   refine D6s hc fun hcl E' hE hc=>?_
   k_extra "hc"
   (refine C4f (C7j hcl) fun fe as kw q e94=>?_; (clear hcl; subst e94))
   refine B2n h fun v H1 h1 h=>?_
   cases v with
   | none =>
    refine B9a h ?_
    refine wpAny_Expr (wpAny_mono (hr.ev ly env f c A n _ _ _ _ hE h1 I F K) (fun u s1 ⟨c1,a,b,I1,S1,r1⟩=>?_) Mine.idE) (by unfold interactive; (refine eqQ F.kind ?_); rfl)
    have r1:u = .none:=r1
    (clear h1; (clear r1; subst r1 a b))
    exact (X.up I1 S1).nxt
   | _=>k_extra "h"
  | Assign ts e p =>
   cases ts with
   | nil=>k_extra "hc"
   | cons t ts =>
    cases ts with
    | cons=>k_extra "hc"
    | nil =>
     replace hc:cAsg g (cE g n ly) ly e t = some S':=hc
     have ke:=C8b t
     unfold cAsg at hc
     cases qe:ev t with
     | nm x px =>
      rw [qe] at hc ke
      refine eqQ ke ?_
      refine C4e hc fun sl hs E' hE hc=>?_
      k_extra "hc"
      refine B2n h fun v H1 h1 h=>B2n h fun f1 H2 h2 h=>?_
      refine B9a h ?_; exact F0u hr hs hE h1 h2 I F K
     | tp ts k0 tp =>
      rw [qe] at hc ke
      refine eqQ ke ?_
      refine F0z hc fun hn l hl b hb E' hE hc=>?_
      k_extra "hc"
      refine B2n h fun v H1 h1 h=>onP h fun i hi h=>onP h fun vs hq h=>prB h fun hlen h=>B2n h fun f1 H2 h2 h=>?_
      refine B9a h ?_
      rw [BT.beq_eq,B1n,B1n] at hlen
      have e:=B0n hi
      subst e
      refine D3p hr hl hb hE (C9z hn) h1 (B1z hq) ?_ h2 I F K
      (refine eqQ (of_decide_eq_true hlen) ?_)
      k_extra "b" <;> simp
     | _=>replace hc:=qe ▸ hc; exact noP hc
  | AugAssign t o e p =>
   refine B1i (show cAug (cE g n ly) ly o e t = some S' from hc) (fun q eq hc=>?_) fun Z hc=>B0a hc fun x ex hc=>B5d hc fun sl hs o' ho E' hE hcz=>?_
   ·refine B0a hc fun x ex hc=>B0a hc fun y ey hc=>gdP hc fun dx hc=>gdP hc fun dy hc=>B0a hc fun i hi hc=>B0a hc fun j hj hc=>B0a hc fun o' ho hc=>B0a hc fun E' hE hc=>?_
    have z:=oYY hc
    subst z
    obtain ⟨pt,rfl⟩:=C9s eq
    obtain ⟨px,ex⟩:=B0s ex
    obtain ⟨py,ey⟩:=B0s ey
    rw [ex,ey]
    refine onP h fun vx hvx h=>onP h fun vk hvk h=>onP h fun p0 hp0 h=>?_
    obtain ⟨a1,a2,a3,a4,a5⟩:=C2z hp0
    refine wpAny_AugAssign_Subscript (wpAny_mono (wpAny_Name (C0x I F (B9s hi) (show slV (.loc i) f c.H = some vx from hvx)) (by simpa using dx)) (fun u1 s1 h1=>?_) Mine.idE)
    obtain ⟨c1,rfl,H1,I1,S1,r1⟩:=h1
    refine wpAny_mono (wpAny_Name (C0x I1 (F.mono S1) (B9s hj) (show slV (.loc j) f c1.H = some vk from hvk)) (by simpa using dy)) (fun u2 s2 h2=>?_) Mine.idE
    obtain ⟨c2,rfl,H2,I2,S2,r2⟩:=h2
    replace r1:=VR.mono S2 r1
    rw [a1] at r1
    rw [a3] at r2
    obtain ⟨hl,rfl⟩:=r1
    obtain ⟨t2,rfl⟩:=r2
    rw [← H1,← H2] at a2
    obtain ⟨hle,vs,n0,e0,rs,ho0⟩:=I2.list hl a2
    obtain ⟨hk,u0,hu0,ru0⟩:=rs.at a5
    refine wpAny_getItem_list (B1d ho0) (Int.natCast_nonneg _) (by have:=rs.length; show ((p0.2.2.1:Nat):Int) < 2 ^ 63; omega) (by simpa using hu0) ?_
    rw [← H1,← H2] at h
    have XA:=(X.up I1 S1).up I2 S2
    refine B1p hr hE h (Ax.start I2 XA.F XA.K) fun c3 v3 u3 X3 r3 S3 h=>?_
    refine onP h fun vn hvn h=>onP h fun q0 hq0 h=>?_
    obtain ⟨b1,b2,b3,b4,b5⟩:=C2z hq0
    rw [a1] at b1
    rw [a3] at b3
    have b1:=oYY (congrArg B4q b1)
    have b3:=Int.ofNat.inj (oYY (congrArg C1c b3))
    rw [← b1] at b2 h
    rw [← b3] at b5 h
    refine wpAny_mono (C7p X3.I W.C ho hvn (ru0.mono S3) r3) (fun u4 s4 h4=>?_) Mine.idE
    obtain ⟨c4,rfl,H4,I4,S4,r4⟩:=h4
    rw [← H4] at b2 h
    have hl4:p0.1 < c4.H.n:=Nat.lt_of_lt_of_le hl (Nat.le_trans S3.n S4.n)
    have XB:=(XA.up X3.I S3).up I4 S4
    have em:c2.mu p0.1 = c4.mu p0.1:=by rw [S4.mu _ (Nat.lt_of_lt_of_le hl S3.n),S3.mu _ hl]
    rw [em]
    refine wpAny_mono (D4d I4 hl4 b2 b5 b4 r4) (fun _ s5 h5=>?_) Mine.idE
    obtain ⟨c5,rfl,H5,I5,S5,_⟩:=h5
    refine B9a h ?_
    rw [← H5]
    exact (XB.up I5 S5).nxt
   (obtain ⟨xp,e98⟩:=B0s ex; refine eqQ e98 ?_)
   (k_extra "fG"; k_extra "fG"; clear hc; (k_extra "fG"; clear hc; k_extra "hcz"))
   refine onP h fun x hx h=>?_
   refine wpAny_AugAssign_Name (wpAny_mono (C0x I F hs hx) (fun u s1 ⟨c1,a,hH,I1,S1,r1⟩=>?_) Mine.idE)
   refine eqR a ?_
   rw [← hH] at h
   refine B1p hr hE h (Ax.start I1 (F.mono S1) (K.step S1 (.inl rfl))) fun c2 v2 u2 X2 r2 S2 h=>?_
   have XA:=(X.up I1 S1).up X2.I S2
   refine onP h fun v h2 h=>B2n h fun f1 H2 h3 h=>?_
   refine wpAny_mono (C7p X2.I C ho h2 (r1.mono S2) r2) (fun u3 s3 ⟨c3,a,h3',I3,S3,r3⟩=>?_) Mine.idE
   refine eqR a ?_
   have XB:=XA.up I3 S3
   refine B9a h ?_
   rw [← h3'] at h3
   refine wpAny_mono (B3p I3 XB.F hs h3 r3).2 (fun _ s2 ⟨c4,a,b,I4,S4,F4⟩=>?_) Mine.idE
   (refine eqR a ?_; refine eqR b ?_)
   exact (XB.put I4 S4 F4 (B1f h3)).nxt
  | If cc a b p =>
   k_extra "fG"; refine B5d hc fun c' hcc a' ha b' hb hc=>?_
   k_extra "hc"
   refine wpAny_If (tsT hr hcc h X (fun c1 X1 h=>?_) fun c1 X1 h=>?_)
   ·(refine eqQ (if_pos rfl) ?_)
    exact wpAny_mono (hr.ex ly env f c1 A n _ _ _ _ _ ha h X1.I X1.F X1.K) (fun _ _ q=>X1.xp q) Mine.idE
   ·(refine eqQ (if_neg Bool.false_ne_true) ?_)
    exact wpAny_mono (hr.ex ly env f c1 A n _ _ _ _ _ hb h X1.I X1.F X1.K) (fun _ _ q=>X1.xp q) Mine.idE
  | For t it b els p =>
   cases els with
   | cons=>k_extra "hc"
   | nil =>
    k_extra "fG"; refine D6s hc fun _ q hsrc hc=>?_
    obtain ⟨k,it'⟩:=q
    refine C4e hc fun t' ht b' hb hc=>?_
    k_extra "hc"
    refine B2n h fun it H1 h1 h=>?_
    exact D2o hr W.hP W.G hsrc ht hb (fun ly env f c A n ss fl f' H=>hr.ex ly env f c A n ss _ fl f' H) h1 h I F K
  | Return e p =>
   refine C4e hc fun e' he E' hE hc=>?_
   k_extra "hc"
   refine eqQ he ?_
   exact wpAny_Return_some (evT hr hE h X fun c1 v u X1 r1 h=>by refine B9a h ?_; exact X1.ret r1)
  | _=>k_extra "hc"
theorem D5u (hr:RnOk prog w D g r) (W:Wd prog w D cx g):ExOk prog w D g (lv cx r):=by
 intro ly env f c A n ss S' fl f' H hc h I F K
 suffices ∀ (ss:List Stmt) (n:Nat) (S':List S) (f0 f:Fm) (c0 c:Cfg),cSs g n ly ss = some S' → exC cx r S' f c.H = some (fl,f',H) → At D A env ly c0 f0 c f → wpAny (model prog w) A (execs ss env) (XP D c0 env ly f0 fl f' H) Nev c.s from this ss n S' f f c c hc h (At.start I F K)
 intro ss
 induction ss with
 | nil =>
  intro n S' f0 f c0 c hc h X
  cases n with
  | zero=>k_extra "hc"
  | succ n=>k_extra "hc"; refine B9a h ?_; exact wpAny_execs_nil X.nxt
 | cons st ss ih =>
  intro n S' f0 f c0 c hc h X
  k_extra "fG"; cases n with
  | zero=>k_extra "hc"
  | succ n =>
   refine C4e hc fun s' hs ss' hss hc=>?_
   k_extra "hc"
   refine wpAny_execs_cons ?_
   refine D2n (show frB (exS cx r s' f c.H) (exC cx r ss') = some (fl,f',H) from h) (fun f1 H1 h1 h=>?_) fun v f1 H1 h1 h=>?_
   ·exact xpT (α:=Unit) (D2q hr W hs h1 X.I X.F X.K) X (fun c1 Z e X1=>ih _ _ _ _ _ _ hss (by (refine eqQ e ?_); exact h) X1) fun Z Z Z e=>by (first | exact noP e | exact fT e | exact absurd e (fun e=>nomatch e))
   ·refine B9a (congrArg some h.symm) ?_
    exact xpT (α:=Unit) (D2q hr W hs h1 X.I X.F X.K) X (fun Z e=>by (first | exact noP e | exact fT e | exact absurd e (fun e=>nomatch e))) fun c1 v' u e1 e X1 ru=>by refine eqQ e1 ?_; refine eqR e ?_; exact X1.ret ru
end
end Ab
end
section
open PySem PySem.W PyProof.Rows PySem.Calls PySem.SeqAt
namespace Ab
section
variable {prog:Program} {w:World} {A:Around} {D:Gd} {c:Cfg} {cx:Cx} {g:G} {r:Rn}
theorem C3z {env : Env} {ly : Ly} (fn : Str × Value → PUnit → Sem (ForInStep PUnit)) (hfn : ∀ x u, fn x u = (do storeName env x.1 x.2; pure (.yield ⟨⟩))) :
  ∀ {args:List Arg} {par:List Sl} {vs:List AV} {us:List Value} {c:Cfg} {f f':Fm} {H':St},C5b ly args = some par → binds par vs f c.H = some (f',H') → VRs D.θ c vs us → Inv D c → FR D c env ly f →
   wpAny (model prog w) A (forIn ((args.map (·.arg)).zip us) (⟨⟩:PUnit) fn) (fun Z s=>f'.dep = f.dep ∧ us.length = args.length ∧ PF D c env ly f' H' s) Nev c.s
 | [],par,vs,us,c,f,f',H',hp,h,rs,I,F=>by
  cases hp
  cases rs with
  | nil=>refine B0j h ?_; exact wpAny_pure ⟨rfl,rfl,c,rfl,rfl,I,Stp.refl _ _,F⟩
  | cons=>k_extra "h"
 | a :: args,par,vs,us,c,f,f',H',hp,h,rs,I,F=>by
  dsimp only [C5b] at hp; simp only [Option.bind_eq_bind,Option.bind_eq_some_iff,Option.some.injEq] at hp
  obtain ⟨sl,hs,par',hpar,rfl⟩:=hp
  cases rs with
  | nil=>k_extra "h"
  | cons r1 rs =>
   refine B2n h fun f1 H1 h1 h=>?_
   simp only [List.map_cons,List.zip_cons_cons,List.forIn_cons,hfn]
   refine wpAny_bind (wpAny_bind (wpAny_mono (B3p I F hs h1 r1).2 (fun Z s1 q=>wpAny_pure ?_) Mine.idE))
   (obtain ⟨c1,e98,rfl,I1,S1,F1⟩:=q; refine eqR e98 ?_)
   refine wpAny_mono (C3z fn hfn hpar h (rs.mono S1) I1 F1) (fun Z s2 q=>?_) Mine.idE
   exact ⟨q.1.trans (B1f h1),by simp [q.2.1],q.2.2.after (f:=f) S1 I1 F⟩
theorem C0e:∀ {par:List Sl} {vs:List AV} {f f':Fm} {H H':St},binds par vs f H = some (f',H') → par.length = vs.length
 | [],[],J,Y,V,O,U=>rfl
 | [],J :: Y,V,O,U,W,h=>noP h
 | J :: Y,[],V,O,U,W,h=>noP h
 | x :: par,v :: vs,f,f',H,H',h=>B2n h fun _ _ _ h=>congrArg Nat.succ (C0e h)
theorem C0d {ly:Ly}:∀ {args:List Arg} {par:List Sl},C5b ly args = some par → par.length = args.length
 | [],par,h=>by refine B0g h ?_; rfl
 | a :: args,par,h=>by
  dsimp only [C5b] at h; simp only [Option.bind_eq_bind,Option.bind_eq_some_iff,Option.some.injEq] at h
  obtain ⟨sl,hs,par',hpar,rfl⟩:=h
  simp [C0d hpar]
theorem B9m {f:Fm}:∀ (n:Nat) (H:St),C4y f (List.replicate n Option.none) H = some (C0u n H)
 | 0,H=>rfl
 | n + 1,H=>by
  show on2 (C4y f (List.replicate n Option.none) (H.new (.cell Option.none)).2) (fun l H'=>some (H.n :: l,H')) = _
  rw [B9m n]; rfl
theorem B6h {ly:Ly}:∀ {names:List (Str × NameKind)},names.all (fun x=>x.2 != .free) = true → C3u ly names = some (List.replicate (B2i names).length Option.none)
 | [],J=>rfl
 | (x,k) :: r,h=>by
  rw [List.all_cons,Bool.and_eq_true] at h
  have ih:=B6h (ly:=ly) h.2
  rw [B0x]
  k_extra "k" <;> first | (exact Bool.noConfusion h.1) | ((exact eqQ (if_neg (by simp)) rfl); exact ih) | (dsimp only [C3u]; (refine eqQ ih ?_); rfl)
theorem B5j {f:Value} {us:List Value} {Q:Value → Shared → Prop} {s:Shared} (h:codeAny (model prog w) A (.call f ⟨us,[]⟩) (fun r s'=>∃ v,r = .ok (.ret v) ∧ Q v s') s):wpAny (model prog w) A (call f us) Q Nev s :=
 wpAny_call (codeAny_mono h fun r s' ⟨v,e,q⟩=>by (refine eqQ e ?_); exact q)
noncomputable abbrev Cfg.wf (c:Cfg) (f:Addr → Prop):Cfg:=⟨c.mu,c.ent,c.H,c.s,f⟩
theorem Ext.wf (c:Cfg) (f:Addr → Prop):Ext c (c.wf f):=⟨Nat.le_refl _,fun Z Z=>rfl⟩
theorem Inv.wf (I:Inv D c) (f:Addr → Prop):Inv D (c.wf f):=⟨fun i h=>(I.rel i h).ext (Ext.wf c f),I.hold,I.dis,I.nd,I.new,I.stat,I.gens⟩
theorem FR.wf {env:Env} {ly:Ly} {x:Fm} (F:FR D c env ly x) (f:Addr → Prop):FR D (c.wf f) env ly x where
 kind:=F.kind
 names:=F.names
 glb:=F.glb
 blt:=F.blt
 ns:=let ⟨m,hm,h⟩:=F.ns; ⟨m,hm,fun i x v a b=>let ⟨u,h1,h2⟩:=h i x v a b; ⟨u,h1,h2.ext (Ext.wf c f)⟩⟩
 unt:=F.unt
 cel:=F.cel
 above:=F.above
theorem StpD.wf {L:Addr} {c c':Cfg} (S:StpD (fun b=>b = L) (c.wf fun a=>a = L ∨ c.fr a) c'):StpD (fun b=>b = L) c (c'.wf c.fr) :=
 ⟨S.n,S.mu,S.adr,S.fresh,fun a o e t z=>(S.keep a o e t z).imp id fun q=>⟨q.1.resolve_left z,q.2⟩,S.live,S.os,S.drawn,rfl⟩
theorem exP {x:Option (Flo × Fm × St)} {y:AV × St} {P:Prop} (h:retV x = some y) (q1:∀ f,x = some (.ret y.1,f,y.2) → P) (q0:∀ f,x = some (.nxt,f,y.2) → y.1 = .none → P):P:=by
 cases x with
 | none=>exact noP h
 | some p =>
  obtain ⟨b,f,H⟩:=p
  cases b with
  | ret v=>obtain rfl:=oYY h; exact q1 f rfl
  | nxt=>(clear q1; obtain rfl:=oYY h); exact q0 f rfl rfl
theorem D6m (hr:RnOk prog w D g r) (W:Wd prog w D cx g):CaOk prog w D (lv cx r):=by
 intro d a vs us c A env v H h I rs K
 have h:caC cx r d (.glob a) vs c.H = some (v,H):=h
 k_extra "fG"; refine B1i (show B0h (lookN cx.pr a) _ _ = some (v,H) from h) (fun mp hp h=>prB h fun hm h=>W.P a mp.1 mp.2 hp vs us c A d env v H (nYY hm) h I rs K) fun hp h=>?_
 cases d with
 | zero=>exact noP h
 | succ d =>
   refine onP h fun fc hfc h=>?_
   obtain ⟨o,fd,params,body,ho,hd,hbody,hfn,hbind,hclo,hglb,hblt,hlim,hcr,hco,hgen,hkind⟩:=W.F a fc hfc
   refine ⟨⟨o,fd,ho,hd⟩,?_⟩
   k_extra "fG"
   dsimp only [cFn] at hfn; simp only [Option.bind_eq_bind,Option.bind_eq_some_iff,Option.some.injEq] at hfn
   (clear hfc; obtain ⟨_,hg1,_,hg2,par,hpar,S',hS,rfl⟩:=hfn)
   have hnd:=C7s hg1
   have hnf:=C7s hg2
   have h:on2 (binds par vs ⟨List.replicate (C5g fd.scope.names).locs.length Option.none,(C0u (C5g fd.scope.names).cels.length c.H).1,d⟩ (C0u (C5g fd.scope.names).cels.length c.H).2) (fun f H=>retV (r.ex S' f H)) = some (v,H):=h
   generalize hcs:C0u (C5g fd.scope.names).cels.length c.H = q at h
   obtain ⟨cs,H1⟩:=q
   dsimp only at h
   refine B2n h fun f1 H2 h2 h=>?_
   have hcel:C4y ⟨[],[],0⟩ (List.replicate (B2i fd.scope.names).length Option.none) c.H = some (cs,H1):=by rw [B9m]; exact congrArg some hcs
   have hcl:=B6h (ly:=⟨[],[],[]⟩) hnf
   have hlen:us.length = params.args.length:=by (refine eqR rs.length ?_; refine eqR (C0e h2) ?_; exact eqQ (C0d hpar) rfl)
   (clear hcs; obtain ⟨fenv,outer,L,dp,gd',un,rfl,e2,e3,e4,e5,⟨mL,e6⟩,e7,e8,e9,e10,e11,e12,e13,e14⟩:=K)
   obtain ⟨oL,hoL⟩:=Ns.live e6
   refine B5j (codeAny_call_function (by show dp < _; exact om172 e4) (I.stat _ _ ho) hd hco hgen hbody (hcr.keeps I.stat) ?_)
   (refine eqQ (hbind us hlen) ?_; refine eqQ hclo ?_)
   refine wpAny_pure ?_
   simp only [newFunctionEnv,Option.isSome_none,Bool.false_eq_true,if_false]
   refine wpAny_bind (wpAny_alloc ?_)
   have hz:=B1l (h:=c.s.heap) (Nat.le_refl _)
   (have I1:=(B3m (s':={ c.s with heap:=c.s.heap.push { cls:=.type "frame",data:=.dict #[] } }) I (fun _ _ e=>Heap.get?_push_of_some _ e) I.gens rfl rfl).1; have S1:=(B3m (s':={ c.s with heap:=c.s.heap.push { cls:=.type "frame",data:=.dict #[] } }) I (fun _ _ e=>Heap.get?_push_of_some _ e) I.gens rfl rfl).2)
   have hn1:(c.s.heap.push { cls:=.type "frame",data:=.dict #[] }).Ns c.s.heap.objs.size (fun _=>Option.none):=Heap.Ns.new ..
   refine wpAny_bind (wpAny_mono (B3z (ocells:=[]) (f:=⟨[],[],0⟩) _ (fun name kind cells=>by k_extra "kind" <;> rfl) fd.scope.names (c:=c.up { c.s with heap:=c.s.heap.push { cls:=.type "frame",data:=.dict #[] } }) hcl hcel I1 (fun x j i hx _=>by k_extra "hx") hnd) (fun cells s4 h4=>?_) fun _ _ z=>z.elim)
   (refine D6w h4 fun c4 e91 e92 I4 S4 R4 K4=>?_; (clear h4; subst e91); subst e92)
   have S04:=S1.trans S4 I1 (fun _ q=>by k_extra "q")
   have untC3:¬ Trk (c.up { c.s with heap:=c.s.heap.push { cls:=.type "frame",data:=.dict #[] } }) c.s.heap.objs.size:=(B1y I hz).1
   obtain ⟨oC,hoC⟩:=Ns.live hn1
   have untC:¬ Trk c4 c.s.heap.objs.size:=S4.trk hoC untC3
   refine Ab.genQ ({ scope:=fd.scope,locals:=c.s.heap.objs.size,globals:=fd.globals,cells:=cells,qual:=fd.qualname ++ ".<locals>.",func:=some a,code:=fd.code,frame:=some c.s.heap.objs.size,builtins:=fd.builtins }:Env) fun cenv hE=>?_
   have eL:cenv.locals = c.s.heap.objs.size:=by (exact eqR hE rfl)
   have eF:cenv.frame = some c.s.heap.objs.size:=by (exact eqR hE rfl)
   have eK:cenv.scope = fd.scope:=by (exact eqR hE rfl)
   have FC:FR D c4 cenv (C5g fd.scope.names) ⟨List.replicate (C5g fd.scope.names).locs.length Option.none,cs,d⟩ :=
    {kind:=by (refine eqQ eK ?_); exact hkind
     names:=by (refine eqQ eK ?_); rfl
     glb:=by (refine eqR hE ?_); exact hglb
     blt:=by (refine eqR hE ?_); exact hblt
     ns:=⟨_,by (refine eqQ eL ?_); exact (S4.keep _ oC hoC untC3 (by simp)).ns hoC hn1,fun i x v _ q=>absurd q (B2f _ _)⟩
     unt:=by (refine eqQ eL ?_); exact untC
     cel:=fun x j i hj hi=>by
      obtain ⟨q1,q2⟩:=R4 x j i hj hi
      refine ⟨q1,?_⟩
      rcases q2 with ⟨_,q⟩ | ⟨_,q⟩
      ·(refine eqR hE ?_); exact q
      ·k_extra "q"
     above:=by (refine eqQ eL ?_); exact Nat.le_of_lt (Nat.lt_of_le_of_lt e8 (Heap.lt_size hoL)) }
   refine wpAny_bind (wpAny_mono (C3z (env:=cenv) _ (fun x u=>rfl) hpar h2 (rs.mono S04) I4 FC) (fun _ s5 q=>wpAny_pure ?_) fun _ _ z=>z.elim)
   (clear h2; (obtain ⟨hd5,_,c5,e98,rfl,I5,S5,F5⟩:=q); refine eqR e98 ?_)
   have hlv:∀ {c':Cfg},FR D c' cenv (C5g fd.scope.names) f1 → ∃ m,c'.s.heap.Ns cenv.locals m:=fun F=>F.nsx _ rfl
   have nsC:=FC.nsx
   have T45:StpD (fun b=>b = cenv.locals) c4 c5:=S5.d I5 fun L q=>by refine B0g q ?_; exact ⟨rfl,nsC _ rfl⟩
   have clo:∀ {c':Cfg},StpE (fun b=>b = cenv.locals) c4 c' → Stp Option.none c c':=fun T=>StpE.close S04 T I4 (fun a z=>.inl (by have z:a = cenv.locals:=z; (refine eqQ z ?_; refine eqQ eL ?_); exact hz)) (fun L q=>by k_extra "q")
   have S05:=clo T45.e
   refine ⟨hlim.keeps I5.stat,codeAny_func ?_⟩
   have K5:AOk D (Around.deeper ⟨Option.none,dp,some (fenv :: outer),gd',un⟩ cenv) f1.dep (c5.wf fun a=>a = cenv.locals ∨ c5.fr a) cenv:=by
    k_extra "fG"; have lvL:∀ L' o',c.s.heap.get? L' = some o' → ¬ Trk c L' → Kp c.fr c.s.heap c5.s.heap L' o' ∧ ¬ Trk c5 L' ∧ L' ≠ cenv.locals ∧ L' < c.s.heap.objs.size:=fun L' o' ho' ht=>⟨S05.keep _ _ ho' ht (by simp),S05.trk ho' ht,by (refine eqQ eL ?_); exact Nat.ne_of_lt (Heap.lt_size ho'),Heap.lt_size ho'⟩
    (refine B0o ((lvL L oL hoL e7).1.plain hoL fun vs q=>Ns.noFields e6 hoL q) fun oL5 hoL5 ndL5=>?_)
    obtain ⟨m5,hm5⟩:=hlv F5
    refine ⟨cenv,fenv :: outer,c.s.heap.objs.size,dp + 1,gd',un + 3,rfl,eF,by (refine eqQ eK ?_); exact hkind,by (refine eqQ hd5 ?_); show dp + 1 + 100 + d < _; exact om173 e4,by (refine eqQ hd5 ?_); show un + 3 + 3 * (100 + d) < _; exact om174 e5,⟨m5,by (refine eqR eL ?_); exact hm5⟩,by (refine eqR eL ?_); exact F5.unt,by (refine eqR eL ?_); exact F5.above,
     ⟨by (refine eqQ e3 ?_); simp,⟨L,oL5,e2,?_,hoL5,ndL5⟩,C7x e9 fun e he L' o' hf hl hd=>(lvL L' o' hl (e10 e he L' hf).1).1.plain hl hd⟩,fun e he L' hf=>?_,eF,.inl eL.symm,fun e he L' hf=>.inr (S05.fr ▸ ?_),fun a ha=>?_⟩
    ·cases q:D.b0.get? L with
     | none=>rfl
     | some o=>exact absurd (Heap.lt_size q) (Nat.not_lt.mpr e8)
    ·rcases List.mem_cons.mp he with rfl | he
     ·replace hf:=e2 ▸ hf; refine B0g hf ?_
      exact (lvL _ oL hoL e7).2
     ·obtain ⟨o',ho'⟩:=C3h e9 e he L' hf
      exact (lvL _ o' ho' (e10 e he L' hf).1).2
    ·rcases List.mem_cons.mp he with rfl | he
     ·replace hf:=e2 ▸ hf; refine B0g hf ?_; exact e12
     ·exact e13 e he L' hf
    ·k_extra "fG"; k_extra "fG"; rcases ha with rfl | ha
     ·exact ⟨F5.unt,m5,hm5⟩
     ·k_extra "fG"; k_extra "fG"; have ha:c5.fr a:=ha
      rw [S05.fr] at ha
      k_extra "fG"; obtain ⟨ht,m',hm'⟩:=e14 a ha
      obtain ⟨o',ho'⟩:=Ns.live hm'
      exact ⟨(lvL a o' ho' ht).2.1,m',(lvL a o' ho' ht).1.ns ho' hm'⟩
   refine exP h (fun f6 h6=>?_) fun f6 h6 z6=>?_
   ·dsimp only at h6
    refine wpAny_mono (hr.ex _ cenv f1 (c5.wf fun a=>a = cenv.locals ∨ c5.fr a) _ 60 body S' _ _ _ hS h6 (I5.wf _) (F5.wf _) K5) (fun fw s6 q=>?_) fun _ _ z=>z.elim
    (obtain ⟨_,c6,rfl,e98,I6,S6,F6,u,rfl,ru⟩:=q; refine eqR e98 ?_)
    have n5:=hlv F5
    exact ⟨u,rfl,c6.wf c5.fr,rfl,rfl,I6.wf _,clo (T45.trans (StpD.wf (S6.d (Z:=fun b=>b = cenv.locals) I6 fun L q=>by refine B0g q ?_; exact ⟨rfl,n5⟩)) I5).e,ru.ext (Ext.wf c6 _)⟩
   ·dsimp only at h6 z6
    refine eqQ z6 ?_
    k_extra "fG"; refine wpAny_mono (hr.ex _ cenv f1 (c5.wf fun a=>a = cenv.locals ∨ c5.fr a) _ 60 body S' _ _ _ hS h6 (I5.wf _) (F5.wf _) K5) (fun fw s6 q=>?_) fun _ _ z=>z.elim
    (obtain ⟨_,c6,rfl,e98,I6,S6,F6,rfl⟩:=q; refine eqR e98 ?_)
    have n5:=hlv F5
    exact ⟨.none,rfl,c6.wf c5.fr,rfl,rfl,I6.wf _,clo (T45.trans (StpD.wf (S6.d (Z:=fun b=>b = cenv.locals) I6 fun L q=>by refine B0g q ?_; exact ⟨rfl,n5⟩)) I5).e,rfl⟩
theorem D6g (hr:RnOk prog w D g r) (W:Wd prog w D cx g):CmOk prog w D g (lv cx r):=by
 intro ly env f c A n elt target iter ifs scope pos pos' E' v H use Q hc h I F K hQ
 k_extra "fG"; cases n with
 | zero=>k_extra "hc"
 | succ n=>exact C8k hr W.hP W.G hc h I F K hQ
theorem B2m (W:Wd prog w D cx g):∀ n,RnOk prog w D g (run cx n)
 | 0=>⟨(by intro ly env f c A n elt target iter ifs scope pos pos' E' v H use Q hc h; k_extra "h"),(by intro ly env f c A n e E' v H hc h; k_extra "h"),(by intro ly env f c A n e E' b H hc h; k_extra "h"),(by intro ly env f c A n ss S' fl f' H hc h; k_extra "h"),(by intro d a vs us c A env v H h; k_extra "h")⟩
 | n + 1=>⟨D6g (B2m W n) W,D5v (B2m W n) W,D3q (B2m W n) W.C,D5u (B2m W n) W,D6m (B2m W n) W⟩
end
end Ab
end
section
namespace Ab
open Mine (Cal Led Pr Nd)
open Classical in
theorem rest (h:Heap) (p:Addr → Prop):∃ R:List (Addr × Obj),(∀ q ∈ R,h.get? q.1 = some q.2 ∧ p q.1) ∧ (R.map (·.1)).Nodup ∧ ∀ a o,h.get? a = some o → p a → (a,o) ∈ R:=by
 refine ⟨(List.range h.objs.size).filterMap fun a=>if p a then (h.get? a).map (a,·) else Option.none,fun q hq=>?_,?_,fun a o e hp=>?_⟩
 ·obtain ⟨a,_,ha⟩:=List.mem_filterMap.mp hq
  split at ha
  ·revert ha; rename _=>hp; intro ha
   obtain ⟨o,ho,rfl⟩:=Option.map_eq_some_iff.mp ha
   exact ⟨ho,hp⟩
  ·cases ha
 ·have key:∀ l:List Nat,l.Nodup → ((l.filterMap fun a=>if p a then (h.get? a).map (a,·) else Option.none).map (·.1)).Nodup:=by
   intro l
   induction l with
   | nil=>intro _; exact List.nodup_nil
   | cons a l ih =>
    intro hn
    rw [List.nodup_cons] at hn
    rw [List.filterMap_cons]
    cases q:(if p a then (h.get? a).map (a,·) else Option.none) with
    | none=>exact ih hn.2
    | some r =>
     have hr:∀ {a:Nat} {r:Addr × Obj},(if p a then (h.get? a).map (a,·) else Option.none) = some r → r.1 = a:=by
      intro a r q
      split at q
      ·obtain ⟨o,_,rfl⟩:=Option.map_eq_some_iff.mp q; rfl
      ·k_extra "q"
     rw [List.map_cons,List.nodup_cons]
     refine ⟨fun hm=>hn.1 ?_,ih hn.2⟩
     obtain ⟨x,hx,e⟩:=List.mem_map.mp hm
     obtain ⟨y,hy,ey⟩:=List.mem_filterMap.mp hx
     rw [← hr q,← e,hr ey]
     exact hy
  exact key _ List.nodup_range
 ·exact List.mem_filterMap.mpr ⟨a,List.mem_range.mpr (Heap.lt_size e),by rw [if_pos hp,e]; rfl⟩
structure Gr (w:World) (D:Gd):Prop where
 top:∃ lo mean mg mb,Top topProg lo mean mg mb D.b0
 X:(hd2.heap_39 w.params).In D.b0
structure Brg (w:World) (D:Gd) (A:Around) (c:Cfg) (O:List (Addr × Obj)) (b:Heap) (L:Addr) (m:Str → Option Value) (R:List (Addr × Obj)):Prop where
 C:Cal w b L 60 A
 F:Fr b L c.s.heap m
 G:Led b L c.s.heap (O ++ R)
 sub:∀ a o,D.b0.get? a = some o → b.get? a = some o
 cov:∀ a o,c.s.heap.get? a = some o → a ≠ L → (∀ p ∈ O,p.1 ≠ a) → b.get? a = some o ∨ (a,o) ∈ R
 unt:¬ Trk c L
 fr:c.fr L
 trk:∀ a o,b.get? a = some o → ¬ Trk c a
inductive BrgB (D:Gd) (A:Around) (c:Cfg) (b:Heap) (L:Addr):Prop
 | mk (env:Env) (outer:List Env) (dp:Nat) (gd:Option (List Code)) (un:Nat) (e:A = ⟨none,dp,some (env :: outer),gd,un⟩) (B:Below ⟨none,0,some outer,none,1⟩ D.b0 outer b) (h1:env.frame = some L) (h2:env.scope.kind = .function) (h3:dp + 60 < recursionLimit) (h4:un + 3 * 60 < cLine)
  (h5:∀ e ∈ outer,∀ L',e.frame = some L' → ¬ Trk c L' ∧ L' < L ∧ c.fr L')
theorem D6n {w:World} {D:Gd} {c:Cfg} {A:Around} {d:Nat} {env:Env} (g:Gr w D) (I:Inv D c) (K:AOk D A d c env) (O:List (Addr × Obj)) (hO:∀ p ∈ O,c.s.heap.get? p.1 = some p.2 ∧ Trk c p.1) (hnd:(O.map (·.1)).Nodup) :
  ∃ b L m R,Brg w D A c O b L m R ∧ BrgB D A c b L:=by
 (obtain ⟨fenv,outer,L,dp,gd,un,e98,e2,e3,e4,e5,⟨m,e6⟩,e7,e8,e9,e10,e11,e12,e13,e14⟩:=K; refine eqQ e98 ?_)
 (k_extra "fG"; refine B0o (cut c.s.heap L (fun a=>¬ Trk c a)) fun b hbs hb=>?_)
 (refine B8y (rest c.s.heap (fun a=>a ≠ L ∧ (∀ p ∈ O,p.1 ≠ a) ∧ b.get? a = Option.none)) fun R R1 R2 R3=>?_)
 have sub:∀ a o,D.b0.get? a = some o → b.get? a = some o:=fun a o e=>by
  rw [hb,if_pos ⟨Nat.lt_of_lt_of_le (Heap.lt_size e) e8,fun z9=>by
   obtain ⟨i,hi,p,hp,q⟩:=z9
   have:=I.new i hi p hp
   rw [q,e] at this; k_extra "this"⟩]
  exact I.stat a o e
 have keep:∀ a o,b.get? a = some o → c.s.heap.get? a = some o:=fun a o e=>by
  rw [hb] at e
  split at e
  ·exact e
  ·k_extra "e"
 have trk:∀ a o,b.get? a = some o → ¬ Trk c a:=fun a o e=>by
  rw [hb] at e
  split at e
  ·revert e; rename _=>q; intro e; exact q.2
  ·k_extra "e"
 (refine C4f g.top fun lo mean mg mb T=>?_)
 have bel:Below ⟨Option.none,0,some outer,Option.none,1⟩ D.b0 outer b:=by
  refine ⟨rfl,sub,?_⟩
  ·have:∀ {l:List Env},c.s.heap.FunFrames D.b0 l → (∀ e ∈ l,∀ L',e.frame = some L' → ¬ Trk c L' ∧ L' < L) → b.FunFrames D.b0 l:=by
    intro l
    induction l with
    | nil=>intro _ _; trivial
    | cons e l ih =>
     rintro ⟨h1,⟨L',o,f,n,g,d⟩,r⟩ h
     obtain ⟨q1,q2⟩:=h e (.head _) L' f
     exact ⟨h1,⟨L',o,f,n,by rw [hb,if_pos ⟨q2,q1⟩]; exact g,d⟩,ih r fun e he=>h e (.tail _ he)⟩
   exact this e9 fun e he L' hf=>⟨(e10 e he L' hf).1,(e10 e he L' hf).2.2⟩
 refine ⟨b,L,m,R,⟨?_,⟨e6,keep,Nat.le_of_eq hbs⟩,⟨fun p hp=>?_,?_⟩,sub,fun a o e h1 h2=>?_,e7,e12,trk⟩,⟨fenv,outer,dp,gd,un,rfl,bel,e2,e3,by exact D8g e4,by exact D8f e5,fun e he L' hf=>⟨(e10 e he L' hf).1,(e10 e he L' hf).2.2,e13 e he L' hf⟩⟩⟩
 ·exact Cal.mk' bel (Frag.In.keeps g.X sub) (T.keeps sub) e2 e3 (by exact D8g e4) (by exact D8f e5) rfl
 ·rcases List.mem_append.mp hp with q | q
  ·(have h1:=(hO p q).1; have h2:=(hO p q).2)
   refine ⟨h1,fun z=>e7 (z ▸ h2),?_⟩
   rw [hb,if_neg (fun z=>z.2 h2)]
  ·(refine x0a4 (R1 p q) fun h1 h2 h3 h4=>?_)
   exact ⟨h1,h2,h4⟩
 ·show ((O ++ R).map (·.1)).Nodup
  rw [List.map_append,List.nodup_append]
  refine ⟨hnd,R2,fun a ha a' ha' q=>?_⟩
  (refine B0o (List.mem_map.mp ha) fun p hp e92=>?_; (clear ha; subst e92))
  (refine B0o (List.mem_map.mp ha') fun p' hp' e92=>?_; subst e92)
  exact (R1 p' hp').2.2.1 p hp q
 ·cases q:b.get? a with
  | none=>exact .inr (R3 a o e ⟨h1,h2,q⟩)
  | some o' =>
   have:=keep a o' q
   replace this:=e ▸ this; refine eqR this ?_
   exact .inl rfl
theorem C8s {w:World} {D:Gd} {c:Cfg} {A:Around} {d:Nat} {env:Env} (g:Gr w D) (I:Inv D c) (K:AOk D A d c env) (O:List (Addr × Obj)) (hO:∀ p ∈ O,c.s.heap.get? p.1 = some p.2 ∧ Trk c p.1) (hnd:(O.map (·.1)).Nodup) :
  ∃ b L m R,Brg w D A c O b L m R:=by
 (refine x4a2 (D6n g I K O hO hnd) fun b L m R h _=>?_)
 exact ⟨b,L,m,R,h⟩
theorem Brg.back {w:World} {D:Gd} {c:Cfg} {A:Around} {b:Heap} {L:Addr} {m:Str → Option Value} {R:List (Addr × Obj)} (B:Brg w D A c [] b L m R) (I:Inv D c) {h':Heap} {tk:Nat} {g':Array GenState} (F:Fr b L h' m) (G:Led b L h' R) (hg:AllBare g') {v:AV} {u:Value} (rv:VR D.θ c v u) :
  PV D c v c.H u { c.s with heap:=h',toks:=tk,gens:=g' }:=by
 have kp:∀ a o,c.s.heap.get? a = some o → a ≠ L → h'.get? a = some o:=fun a o e ne=>by
  rcases B.cov a o e ne (fun p hp=>by (first | exact noP hp | exact fT hp | exact absurd hp (fun e=>nomatch e))) with q | q
  ·exact F.keep a o q
  ·exact (G.n _ q).1
 have I':Inv D (c.up { c.s with heap:=h',toks:=tk,gens:=g' }):=I.up (fun a o t e=>kp a o e fun q=>B.unt (q ▸ t)) (fun a o e=>F.keep a o (B.sub a o e)) hg
 refine ⟨c.up { c.s with heap:=h',toks:=tk,gens:=g' },rfl,rfl,I',⟨Nat.le_refl _,fun Z Z=>rfl,fun Z Z=>.of rfl,fun i h1 h2=>absurd h2 (Nat.not_lt.mpr h1),fun a o e t Z=>?_,fun L h=>(by k_extra "h"),rfl,rfl,rfl⟩,rv.ext (Ext.up ..)⟩
 by_cases q:a = L
 ·refine eqQ q ?_
  exact Kp.mkN B.fr (q ▸ e) B.F.ns F.ns
 ·exact .inl (kp a o e q)
theorem putL {D:Gd} {c:Cfg} {s':Shared} {L:Addr} (I:Inv D c) {i:Nat} (hi:i < c.H.n) {e:List (Addr × Obj)} {o:AO} (ha:e.map (·.1) = (c.ent i).map (·.1)) (hh:∀ p ∈ e,s'.heap.get? p.1 = some p.2)
  (k:∀ b x,b ∉ (c.ent i).map (·.1) → b ≠ L → c.s.heap.get? b = some x → s'.heap.get? b = some x) (uL:¬ Trk c L) (bL:D.b0.get? L = Option.none) (kL:∀ x,c.s.heap.get? L = some x → Kp c.fr c.s.heap s'.heap L x)
  (r:OR D c o (c.mu i) e) (g:AllBare s'.gens) (h1:s'.os = c.s.os) (h2:s'.drawn = c.s.drawn) :
  Inv D (c.put i e o s') ∧ Stp Option.none c (c.put i e o s'):=by
 have adr:∀ j,(if j = i then e else c.ent j).map (·.1) = (c.ent j).map (·.1):=fun j=>by
  by_cases q:j = i
  ·(refine eqQ (if_pos q) ?_; refine eqQ q ?_); exact ha
  ·(exact eqQ (if_neg q) rfl)
 have back:∀ j,∀ p ∈ (if j = i then e else c.ent j),∃ q ∈ c.ent j,q.1 = p.1:=fun j p hp=>B7z (adr j) hp
 constructor
 ·k_extra "fG"; k_extra "fG"; refine ⟨?_,?_,?_,?_,?_,fun b x q=>?_,g⟩
  ·intro j h
   show OR D _ ((c.H.set i o).get j) (c.mu j) (if j = i then e else c.ent j)
   rw [St.get_set]
   by_cases q:j = i
   ·(refine eqQ (if_pos q) ?_; refine eqQ (if_pos q) ?_; refine eqQ q ?_); exact r.ext (Ext.put ..)
   ·(refine eqQ (if_neg q) ?_; refine eqQ (if_neg q) ?_); exact (I.rel j h).ext (Ext.put ..)
  ·intro j h p hp
   have hp':p ∈ if j = i then e else c.ent j:=hp
   k_extra "fG"; by_cases q:j = i
   ·replace hp':=(if_pos q) ▸ hp'; exact hh p hp'
   ·replace hp':=(if_neg q) ▸ hp'
    refine k _ _ (fun hm=>?_) (fun z=>uL ⟨j,h,p,hp',z⟩) (I.hold j h p hp')
    (refine B0o (List.mem_map.mp hm) fun z hz ez=>?_)
    exact I.dis j i h hi q p hp' z hz ez.symm
  ·intro j l hj hl ne p hp q hq
   (refine B0o (back j p hp) fun p' hp' ep=>?_)
   (refine B0o (back l q hq) fun q' hq' eq=>?_)
   (refine eqR ep ?_; refine eqR eq ?_)
   exact I.dis j l hj hl ne p' hp' q' hq'
  ·intro j h
   show ((if j = i then e else c.ent j).map (·.1)).Nodup
   rw [adr]; exact I.nd j h
  ·intro j h p hp
   (refine B0o (back j p hp) fun p' hp' ep=>?_)
   (refine eqR ep ?_); exact I.new j h p' hp'
  ·refine k b x (fun hm=>?_) (fun z=>by rw [z,bL] at q; k_extra "q") (I.stat b x q)
   (refine B0o (List.mem_map.mp hm) fun z hz ez=>?_)
   have:=I.new i hi z hz
   rw [ez,q] at this; (first | exact noP this | exact fT this | exact absurd this (fun e=>nomatch e))
 ·refine ⟨Nat.le_refl _,fun Z Z=>rfl,fun j Z=>.of (adr j),fun j l u=>absurd u (Nat.not_lt.mpr l),fun b x q t Z=>?_,fun L h=>(by k_extra "h"),h1,h2,rfl⟩
  k_extra "fG"; by_cases z:b = L
  ·subst z; exact kL x q
  ·refine .inl (k b x (fun hm=>t ?_) z q)
   (refine B0o (List.mem_map.mp hm) fun z hz ez=>?_)
   exact ⟨i,hi,z,hz,ez⟩
theorem Brg.put {w:World} {D:Gd} {c:Cfg} {A:Around} {b:Heap} {L:Addr} {m:Str → Option Value} {R:List (Addr × Obj)} {i:Nat} (B:Brg w D A c (c.ent i) b L m R) (I:Inv D c) (hi:i < c.H.n) {h':Heap} {tk:Nat} {O':List (Addr × Obj)} (F:Fr b L h' m) (G:Led b L h' (O' ++ R))
  (ha:O'.map (·.1) = (c.ent i).map (·.1)) {o:AO} (r:OR D c o (c.mu i) O') {v:AV} {u:Value} (rv:VR D.θ c v u):PV D c v (c.H.set i o) u { c.s with heap:=h',toks:=tk }:=by
 k_extra "fG"; have hb:D.b0.get? L = Option.none:=by
  cases q:D.b0.get? L with
  | none=>rfl
  | some o =>
   k_extra "fG"; have:=Heap.lt_size (B.sub L o q)
   exact absurd this (Nat.not_lt.mpr B.F.above)
 obtain ⟨I',S'⟩:=putL (s':={ c.s with heap:=h',toks:=tk }) (L:=L) I hi (e:=O') (o:=o) ha (fun p hp=>(G.n p (List.mem_append_left _ hp)).1) (fun a x h1 h2 e=>by
  k_extra "fG"; rcases B.cov a x e h2 (fun p hp q=>h1 (List.mem_map.mpr ⟨p,hp,q⟩)) with q | q
  ·exact F.keep a x q
  ·exact (G.n _ (List.mem_append_right _ q)).1) B.unt hb (fun x e=>Kp.mkN B.fr e B.F.ns F.ns) r I.gens rfl rfl
 exact ⟨_,rfl,rfl,I',S',rv.mono S'⟩
end Ab
end
section
namespace Ab
theorem Inv.jump {X:Option Addr} {D:Gd} {c:Cfg} (I:Inv D c) {mu:Nat → Addr} {en:Nat → List (Addr × Obj)} {H1:St} {s':Shared} (hn:c.H.n ≤ H1.n) (hm:∀ i,i < c.H.n → mu i = c.mu i)
  (ow:∀ i,i < H1.n → ∀ p ∈ en i,(i < c.H.n ∧ ∃ q ∈ c.ent i,q.1 = p.1) ∨ c.s.heap.get? p.1 = none)
  (bk:∀ i,i < c.H.n → ∀ q ∈ c.ent i,∃ p ∈ en i,p.1 = q.1)
  (hh:∀ i,i < H1.n → ∀ p ∈ en i,s'.heap.get? p.1 = some p.2)
  (dd:∀ i j,i < H1.n → j < H1.n → i ≠ j → ∀ p ∈ en i,∀ q ∈ en j,c.s.heap.get? p.1 = none → c.s.heap.get? q.1 = none → p.1 ≠ q.1)
  (nd:∀ i,i < H1.n → ((en i).map (·.1)).Nodup)
  (kp:∀ b x,¬ Trk c b → X ≠ some b → c.s.heap.get? b = some x → Kp c.fr c.s.heap s'.heap b x)
  (ns:∀ L,X = some L → (∃ m,c.s.heap.Ns L m) → ∃ m,s'.heap.Ns L m)
  (st:∀ a o,D.b0.get? a = some o → s'.heap.get? a = some o)
  (r:∀ i,i < H1.n → OR D ⟨mu,en,H1,s',c.fr⟩ (H1.get i) (mu i) (en i)) (g:AllBare s'.gens) (h1:s'.os = c.s.os) (h2:s'.drawn = c.s.drawn) :
  Inv D ⟨mu,en,H1,s',c.fr⟩ ∧ Stp X c ⟨mu,en,H1,s',c.fr⟩:=by
 have lv:∀ {i p},i < c.H.n → p ∈ c.ent i → c.s.heap.get? p.1 ≠ none:=fun hi hp e=>by
  have z:=I.hold _ hi _ hp
  rw [e] at z; exact noP z
 refine ⟨⟨r,hh,fun i j hi hj ne p hp q hq e=>?_,nd,fun i hi p hp=>?_,st,g⟩,⟨hn,hm,fun i h=>⟨fun p hp=>(ow i (Nat.lt_of_lt_of_le h hn) p hp).imp (·.2) id,bk i h⟩,fun i l u p hp=>(ow i u p hp).elim (fun z=>absurd z.1 (Nat.not_lt.mpr l)) id,fun b x e t z=>kp b x t z e,ns,h1,h2,rfl⟩⟩
 ·rcases ow i hi p hp with ⟨h3,p',hp',e1⟩ | z1
  ·rcases ow j hj q hq with ⟨h4,q',hq',e2⟩ | z2
   ·exact I.dis i j h3 h4 ne p' hp' q' hq' (e1.trans (e.trans e2.symm))
   ·exact lv h3 hp' (e1 ▸ e ▸ z2)
  ·rcases ow j hj q hq with ⟨h4,q',hq',e2⟩ | z2
   ·exact lv h4 hq' (e2 ▸ e ▸ z1)
   ·exact dd i j hi hj ne p hp q hq z1 z2 e
 ·rcases ow i hi p hp with ⟨h3,p',hp',e1⟩ | z1
  ·exact e1 ▸ I.new i h3 p' hp'
  ·cases z:D.b0.get? p.1 with
   | none=>rfl
   | some o =>
    have y:=I.stat _ _ z
    rw [z1] at y; exact noP y
end Ab
end
section
namespace Ab
open Mine (Cal Led Pr Nd TabSt C2a B7k B2o)
theorem Brg.kp {w:World} {D:Gd} {c:Cfg} {A:Around} {O:List (Addr × Obj)} {b:Heap} {L:Addr} {m:Str → Option Value} {R:List (Addr × Obj)} (B:Brg w D A c O b L m R) {h':Heap} (F:Fr b L h' m) (G:∀ p ∈ R,h'.get? p.1 = some p.2) :
  ∀ a o,c.s.heap.get? a = some o → a ≠ L → (∀ p ∈ O,p.1 ≠ a) → h'.get? a = some o:=fun a o e n1 n2=>by
 rcases B.cov a o e n1 n2 with q | q
 ·exact F.keep a o q
 ·exact G _ q
theorem Brg.dead {w:World} {D:Gd} {c:Cfg} {A:Around} {O:List (Addr × Obj)} {b:Heap} {L:Addr} {m:Str → Option Value} {R:List (Addr × Obj)} (B:Brg w D A c O b L m R) {a:Addr} (n1:a ≠ L) (n2:∀ p ∈ O,p.1 ≠ a) (n3:b.get? a = Option.none) (n4:∀ p ∈ R,p.1 ≠ a):c.s.heap.get? a = Option.none:=by
 cases q:c.s.heap.get? a with
 | none=>rfl
 | some o =>
  rcases B.cov a o q n1 n2 with e | e
  ·rw [n3] at e; k_extra "e"
  ·exact absurd rfl (n4 _ e)
theorem Brg.bL {w:World} {D:Gd} {c:Cfg} {A:Around} {O:List (Addr × Obj)} {b:Heap} {L:Addr} {m:Str → Option Value} {R:List (Addr × Obj)} (B:Brg w D A c O b L m R):D.b0.get? L = Option.none:=by
 cases q:D.b0.get? L with
 | none=>rfl
 | some o=>exact absurd (Heap.lt_size (B.sub L o q)) (Nat.not_lt.mpr B.F.above)
noncomputable def tab1? (a:Nat):AO → Bool
 | .tab b k=>Nat.beq b a && Nat.beq k 1
 | _=>false
theorem tab1?_ok {a:Nat} {v:AO} (h:tab1? a v = true):v = .tab a 1:=by
 cases v with
 | tab b k=>exact B1b h fun h1 h2=>by rw [Nat.eq_of_beq_eq_true h1,Nat.eq_of_beq_eq_true h2]
 | _=>exact fT h
noncomputable def tst (a t:Nat) (H:St):Bool:=Nat.blt t H.n && tab1? a (H.get t)
structure TabIn (c:Cfg) (a t:Nat) (o:Option (Addr × Obj)):Prop where
 ht:t < c.H.n
 mu:c.mu t = a
 get:c.H.get t = .tab a 1
 st:TabSt a (tabI a).2.2 (tabI a).1 (tabI a).2.1 o (c.ent t)
 adr:∀ p ∈ c.ent t,p.1 = a ∨ o = some p
theorem D1s {D:Gd} {c:Cfg} (I:Inv D c) {a t:Nat} (h:tst a t c.H = true):∃ o,TabIn c a t o:=by
 refine B1b h fun ht h1=>?_
 have ht:t < c.H.n:=nYY ht
 have hg:=tab1?_ok h1
 have r:=I.rel t ht
 rw [hg] at r
 obtain ⟨r1,r2⟩:=r
 rw [r1] at r2
 rcases r2 with r2 | ⟨cc,oc,vs,tk,r2,q1,q2⟩
 ·exact ⟨Option.none,ht,r1,hg,by rw [r2]; exact .new,fun p hp=>.inl (by rw [r2] at hp; exact congrArg Prod.fst (List.mem_singleton.mp hp))⟩
 ·refine ⟨some (cc,oc),ht,r1,hg,by rw [r2]; exact .hit cc oc vs tk q1 q2,fun p hp=>?_⟩
  rw [r2] at hp
  rcases List.mem_cons.mp hp with e | hp
  ·exact .inl (congrArg Prod.fst e)
  ·exact .inr (congrArg some (List.mem_singleton.mp hp).symm)
noncomputable abbrev tbN (a:Nat) (cc:Addr) (oc:Obj):List (Addr × Obj):=[(a,tabObj #[rawInt (tabI a).1,rawInt (tabI a).2.1,.ref cc]),(cc,oc)]
structure TabN (c:Cfg) (a t:Nat) (e:List (Addr × Obj)) (h':Heap):Prop where
 ow:∀ p ∈ e,(∃ q ∈ c.ent t,q.1 = p.1) ∨ c.s.heap.get? p.1 = Option.none
 bk:∀ q ∈ c.ent t,∃ p ∈ e,p.1 = q.1
 live:∀ p ∈ e,h'.get? p.1 = some p.2
 nd:(e.map (·.1)).Nodup
 rel:TabR a 1 (c.mu t) e
theorem TabN.mk' {c:Cfg} {a t:Nat} {o:Option (Addr × Obj)} {cc:Addr} {oc:Obj} {h':Heap} (T:TabIn c a t o) (k1:h'.get? a = some (tabObj #[rawInt (tabI a).1,rawInt (tabI a).2.1,.ref cc])) (k2:h'.get? cc = some oc) (ne:a ≠ cc)
  (ok:C2a (tabI a).2.2 oc) (same:∀ x,o = some x → x = (cc,oc)) (dead:o = Option.none → c.s.heap.get? cc = Option.none):TabN c a t (tbN a cc oc) h':=by
 have ma:∃ q ∈ c.ent t,q.1 = a:=by
  have st:=T.st
  generalize c.ent t = e at st
  cases st with
  | new=>exact ⟨_,.head _,rfl⟩
  | hit=>exact ⟨_,.head _,rfl⟩
 have mc:(∃ q ∈ c.ent t,q.1 = cc) ∨ c.s.heap.get? cc = Option.none:=by
  have st:=T.st
  generalize c.ent t = e at st
  cases st with
  | new=>exact .inr (dead rfl)
  | hit c1 oc1 vs tk q1 q2=>exact .inl ⟨_,.tail _ (.head _),congrArg Prod.fst (same _ rfl)⟩
 obtain ⟨vs,tk,q1,q2⟩:=ok
 refine ⟨fun p hp=>?_,fun q hq=>?_,fun p hp=>?_,?_,T.mu,.inr ⟨cc,oc,vs,tk,?_,q1,q2⟩⟩
 ·rcases List.mem_cons.mp hp with rfl | hp
  ·exact .inl ma
  ·rw [List.mem_singleton.mp hp]; exact mc
 ·rcases T.adr q hq with e | e
  ·exact ⟨_,.head _,e.symm⟩
  ·exact ⟨_,.tail _ (.head _),(congrArg Prod.fst (same q e)).symm⟩
 ·rcases List.mem_cons.mp hp with rfl | hp
  ·exact k1
  ·rw [List.mem_singleton.mp hp]; exact k2
 ·exact List.nodup_cons.mpr ⟨fun z=>ne (List.mem_singleton.mp z),List.nodup_cons.mpr ⟨List.not_mem_nil,List.nodup_nil⟩⟩
 ·rw [T.mu]
end Ab
end
section
namespace Ab
open Mine (Cal Led Pr Nd TabSt C2a B7k B2o)
noncomputable def F1c (D:Gd) (ans:AV → AV → Option (AV × AV)):Prop:=∀ x y q r,ans x y = some (q,r) → ∃ a d:Int,(∀ c u,VR D.θ c x u → ∃ t,u = .int a t) ∧ (∀ c u,VR D.θ c y u → ∃ t,u = .int d t) ∧ d ≠ 0 ∧ Builtin.Int.intBits d < 1000 ∧
 Builtin.Int.intBits a ≤ 256 * Builtin.Int.intBits d ∧ (∀ c t,VR D.θ c q (.int (Int.fdiv a d) t)) ∧ ∀ c t,VR D.θ c r (.int (Int.fmod a d) t)
noncomputable def pDm (t1 t2 : Nat) (ans : AV → AV → Option (AV × AV)) (as : List AV) (H : St) : Option (AV × St) := do
 let p ← two? as
 let z ← ans p.1 p.2
 gd (tst 30 t1 H)
 gd (tst 37 t2 H)
 some (.ref H.n,(H.new (.tup [z.1,z.2])).2)
theorem D6a {w:World} {D:Gd} {A:Around} {c:Cfg} {t1 t2:Nat} {o1 o2:Option (Addr × Obj)} {R:List (Addr × Obj)} {b:Heap} {L:Addr} {m:Str → Option Value} (I:Inv D c) (T1:TabIn c 30 t1 o1) (T2:TabIn c 37 t2 o2) (B:Brg w D A c (c.ent t1 ++ c.ent t2) b L m R)
  {q r:AV} {qi ri:Int} (oq:∀ c t,VR D.θ c q (.int qi t)) (or:∀ c t,VR D.θ c r (.int ri t)):B7k b L m R o1 o2 qi ri (PV D c (.ref c.H.n) (c.H.new (.tup [q,r])).2) c.s:=by
 intro h' tk rr c1 oc1 c2 oc2 u1 u2 F' G' k1 k2 k3 k4
 have nd:=G'.nd
 have nd1:=Mine.B0d nd
 have nd2:=Mine.B0d (Mine.B0b nd)
 have nd3:=Mine.B0d (Mine.B0b (Mine.B0b nd))
 have nd4:=Mine.B0d (Mine.B0b (Mine.B0b (Mine.B0b nd)))
 have nd5:=Mine.B0d (Mine.B0b (Mine.B0b (Mine.B0b (Mine.B0b nd))))
 have g0:=G'.n _ (.head _)
 have g1:=G'.n _ (.tail _ (.head _))
 have g2:=G'.n _ (.tail _ (.tail _ (.head _)))
 have g3:=G'.n _ (.tail _ (.tail _ (.tail _ (.head _))))
 have g4:=G'.n _ (.tail _ (.tail _ (.tail _ (.tail _ (.head _)))))
 have gR:∀ p ∈ R,h'.get? p.1 = some p.2:=fun p hp=>(G'.n p (.tail _ (.tail _ (.tail _ (.tail _ (.tail _ hp)))))).1
 have x1:(37:Nat) ≠ 30:=by decide
 have a12:c1 ≠ 30:=fun z=>nd2 _ (.head _) z
 have a13:(37:Nat) ≠ c1:=fun z=>nd3 _ (.head _) z
 have a14:c2 ≠ c1:=fun z=>nd3 _ (.tail _ (.head _)) z
 have a15:c2 ≠ 37:=fun z=>nd4 _ (.head _) z
 have a16:c2 ≠ 30:=fun z=>nd2 _ (.tail _ (.tail _ (.head _))) z
 have b1:(30:Nat) ≠ rr:=fun z=>nd1 _ (.head _) z
 have b2:c1 ≠ rr:=fun z=>nd1 _ (.tail _ (.head _)) z
 have b3:(37:Nat) ≠ rr:=fun z=>nd1 _ (.tail _ (.tail _ (.head _))) z
 have b4:c2 ≠ rr:=fun z=>nd1 _ (.tail _ (.tail _ (.tail _ (.head _)))) z
 have adr1:∀ p ∈ c.ent t1,p.1 = 30 ∨ (p.1 = c1 ∧ o1 ≠ Option.none):=fun p hp=>(T1.adr p hp).imp id fun e=>⟨congrArg Prod.fst (k3 p e),fun z=>by rw [z] at e; exact noP e⟩
 have adr2:∀ p ∈ c.ent t2,p.1 = 37 ∨ (p.1 = c2 ∧ o2 ≠ Option.none):=fun p hp=>(T2.adr p hp).imp id fun e=>⟨congrArg Prod.fst (k4 p e),fun z=>by rw [z] at e; exact noP e⟩
 have d0:c.s.heap.get? rr = Option.none:=B.dead g0.2.1 (fun p hp z=>by
  rcases List.mem_append.mp hp with hp | hp
  ·rcases adr1 p hp with e | ⟨e,_⟩
   ·exact b1 (e.symm.trans z)
   ·exact b2 (e.symm.trans z)
  ·rcases adr2 p hp with e | ⟨e,_⟩
   ·exact b3 (e.symm.trans z)
   ·exact b4 (e.symm.trans z)) g0.2.2 fun p hp z=>nd1 p (.tail _ (.tail _ (.tail _ (.tail _ hp)))) z
 have d1:o1 = Option.none → c.s.heap.get? c1 = Option.none:=fun y=>B.dead g2.2.1 (fun p hp z=>by
  rcases List.mem_append.mp hp with hp | hp
  ·rcases adr1 p hp with e | ⟨_,e⟩
   ·exact a12 (z.symm.trans e)
   ·exact e y
  ·rcases adr2 p hp with e | ⟨e,_⟩
   ·exact a13 (e.symm.trans z)
   ·exact a14 (e.symm.trans z)) g2.2.2 fun p hp z=>nd3 p (.tail _ (.tail _ hp)) z
 have d2:o2 = Option.none → c.s.heap.get? c2 = Option.none:=fun y=>B.dead g4.2.1 (fun p hp z=>by
  rcases List.mem_append.mp hp with hp | hp
  ·rcases adr1 p hp with e | ⟨e,_⟩
   ·exact a16 (z.symm.trans e)
   ·exact a14 (z.symm.trans e)
  ·rcases adr2 p hp with e | ⟨_,e⟩
   ·exact a15 (z.symm.trans e)
   ·exact e y) g4.2.2 fun p hp z=>nd5 p hp z
 have N1:TabN c 30 t1 (tbN 30 c1 oc1) h':=.mk' T1 g1.1 g2.1 a12.symm k1 k3 d1
 have N2:TabN c 37 t2 (tbN 37 c2 oc2) h':=.mk' T2 g3.1 g4.1 a15.symm k2 k4 d2
 have nt:t2 ≠ t1:=fun z=>by
  have e:=T1.mu
  rw [← z,T2.mu] at e
  exact x1 e
 have n1:t1 ≠ c.H.n:=Nat.ne_of_lt T1.ht
 have n2:t2 ≠ c.H.n:=Nat.ne_of_lt T2.ht
 have lv:∀ {i p},i < c.H.n → p ∈ c.ent i → c.s.heap.get? p.1 ≠ Option.none:=fun hi hp e=>by
  have z:=I.hold _ hi _ hp
  rw [e] at z; exact noP z
 have kp:=B.kp F' gR
 have cs:∀ {P:Nat → List (Addr × Obj) → Prop},P c.H.n [(rr,{ cls:=.type "tuple",data:=.seq #[.int qi u1,.int ri u2] })] → P t1 (tbN 30 c1 oc1) → P t2 (tbN 37 c2 oc2) → (∀ i,i < c.H.n → i ≠ t1 → i ≠ t2 → P i (c.ent i)) →
   ∀ i,i < (c.H.new (.tup [q,r])).2.n → P i (if i = c.H.n then [(rr,{ cls:=.type "tuple",data:=.seq #[.int qi u1,.int ri u2] })] else if i = t1 then tbN 30 c1 oc1 else if i = t2 then tbN 37 c2 oc2 else c.ent i):=fun {P} p0 p1 p2 p3 i hi=>by
  by_cases z:i = c.H.n
  ·rw [if_pos z,z]; exact p0
  by_cases z1:i = t1
  ·rw [if_neg z,if_pos z1,z1]; exact p1
  by_cases z2:i = t2
  ·rw [if_neg z,if_neg z1,if_pos z2,z2]; exact p2
  ·rw [if_neg z,if_neg z1,if_neg z2]
   exact p3 i (Nat.lt_of_le_of_ne (Nat.le_of_lt_succ hi) z) z1 z2
 have J:=I.jump (X:=Option.none) (s':={ c.s with heap:=h',toks:=tk }) (H1:=(c.H.new (.tup [q,r])).2) (mu:=fun i=>if i = c.H.n then rr else c.mu i)
  (en:=fun i=>if i = c.H.n then [(rr,{ cls:=.type "tuple",data:=.seq #[.int qi u1,.int ri u2] })] else if i = t1 then tbN 30 c1 oc1 else if i = t2 then tbN 37 c2 oc2 else c.ent i)
  (Nat.le_succ _) (fun i h=>if_neg (Nat.ne_of_lt h))
  (cs (P:=fun i e=>∀ p ∈ e,(i < c.H.n ∧ ∃ q ∈ c.ent i,q.1 = p.1) ∨ c.s.heap.get? p.1 = Option.none) (fun p hp=>.inr (by rw [List.mem_singleton.mp hp]; exact d0)) (fun p hp=>(N1.ow p hp).imp (fun z=>⟨T1.ht,z⟩) id) (fun p hp=>(N2.ow p hp).imp (fun z=>⟨T2.ht,z⟩) id) fun i h _ _ p hp=>.inl ⟨h,p,hp,rfl⟩)
  (fun i h=>cs (P:=fun i e=>i < c.H.n → ∀ q ∈ c.ent i,∃ p ∈ e,p.1 = q.1) (fun z=>absurd z (Nat.lt_irrefl _)) (fun _=>N1.bk) (fun _=>N2.bk) (fun i _ _ _ _ q hq=>⟨q,hq,rfl⟩) i (Nat.lt_succ_of_lt h) h)
  (cs (P:=fun i e=>∀ p ∈ e,h'.get? p.1 = some p.2) (fun p hp=>by rw [List.mem_singleton.mp hp]; exact g0.1) N1.live N2.live fun i h z1 z2 p hp=>kp _ _ (I.hold i h p hp) (fun y=>B.unt ⟨i,h,p,hp,y⟩) fun p' hp' e=>(List.mem_append.mp hp').elim (fun y=>I.dis i t1 h T1.ht z1 p hp p' y e.symm) fun y=>I.dis i t2 h T2.ht z2 p hp p' y e.symm)
  (fun i j hi hj ne p hp q' hq y1 y2 e=>by
   have f:=cs (P:=fun i e=>∀ p ∈ e,c.s.heap.get? p.1 = Option.none → (i = c.H.n ∧ p.1 = rr) ∨ (i = t1 ∧ (p.1 = 30 ∨ p.1 = c1)) ∨ (i = t2 ∧ (p.1 = 37 ∨ p.1 = c2))) (fun p hp _=>.inl ⟨rfl,congrArg Prod.fst (List.mem_singleton.mp hp)⟩)
    (fun p hp _=>.inr (.inl ⟨rfl,(List.mem_cons.mp hp).imp (congrArg Prod.fst) fun z=>congrArg Prod.fst (List.mem_singleton.mp z)⟩)) (fun p hp _=>.inr (.inr ⟨rfl,(List.mem_cons.mp hp).imp (congrArg Prod.fst) fun z=>congrArg Prod.fst (List.mem_singleton.mp z)⟩)) fun i h _ _ p hp z=>absurd z (lv h hp)
   rcases f i hi p hp y1 with ⟨i1,e1⟩ | ⟨i1,e1⟩ | ⟨i1,e1⟩ <;> rcases f j hj q' hq y2 with ⟨j1,e2⟩ | ⟨j1,e2⟩ | ⟨j1,e2⟩
   ·exact ne (i1.trans j1.symm)
   ·rcases e2 with e2 | e2
    ·exact b1 (e2.symm.trans (e.symm.trans e1))
    ·exact b2 (e2.symm.trans (e.symm.trans e1))
   ·rcases e2 with e2 | e2
    ·exact b3 (e2.symm.trans (e.symm.trans e1))
    ·exact b4 (e2.symm.trans (e.symm.trans e1))
   ·rcases e1 with e1 | e1
    ·exact b1 (e1.symm.trans (e.trans e2))
    ·exact b2 (e1.symm.trans (e.trans e2))
   ·exact ne (i1.trans j1.symm)
   ·rcases e1 with e1 | e1 <;> rcases e2 with e2 | e2
    ·exact x1 (e2.symm.trans (e.symm.trans e1))
    ·exact a16 (e2.symm.trans (e.symm.trans e1))
    ·exact a13 (e2.symm.trans (e.symm.trans e1))
    ·exact a14 (e2.symm.trans (e.symm.trans e1))
   ·rcases e1 with e1 | e1
    ·exact b3 (e1.symm.trans (e.trans e2))
    ·exact b4 (e1.symm.trans (e.trans e2))
   ·rcases e1 with e1 | e1 <;> rcases e2 with e2 | e2
    ·exact x1 (e1.symm.trans (e.trans e2))
    ·exact a13 (e1.symm.trans (e.trans e2))
    ·exact a16 (e1.symm.trans (e.trans e2))
    ·exact a14 (e1.symm.trans (e.trans e2))
   ·exact ne (i1.trans j1.symm))
  (cs (P:=fun i e=>(e.map (·.1)).Nodup) (List.nodup_cons.mpr ⟨List.not_mem_nil,List.nodup_nil⟩) N1.nd N2.nd fun i h _ _=>I.nd i h)
  (fun b' x t _ e=>by
   by_cases z:b' = L
   ·subst z; exact Kp.mkN B.fr e B.F.ns F'.ns
   ·exact .inl (kp b' x e z fun p hp y=>t (y ▸ ((List.mem_append.mp hp).elim (fun y=>⟨t1,T1.ht,p,y,rfl⟩) fun y=>⟨t2,T2.ht,p,y,rfl⟩))))
  (fun L h=>noP h)
  (fun a o e=>by
   have e':=I.stat a o e
   refine kp a o e' (fun z=>by rw [z,B.bL] at e; exact noP e) fun p hp y=>?_
   rcases List.mem_append.mp hp with z | z
   ·have n:=I.new _ T1.ht p z
    rw [y,e] at n; exact noP n.symm
   ·have n:=I.new _ T2.ht p z
    rw [y,e] at n; exact noP n.symm)
  (fun i hi=>by
   show OR D _ ((c.H.new (.tup [q,r])).2.get i) _ _
   rw [St.get_new]
   by_cases z:i = c.H.n
   ·rw [if_pos z,if_pos z,if_pos z]
    exact ⟨(by decide:2 ≤ B6x),[_,_],0,rfl,.cons (oq _ _) (.cons (or _ _) .nil)⟩
   have hi:i < c.H.n:=Nat.lt_of_le_of_ne (Nat.le_of_lt_succ hi) z
   rw [if_neg z,if_neg z,if_neg z]
   by_cases z1:i = t1
   ·rw [if_pos z1,z1,T1.get]; exact N1.rel
   by_cases z2:i = t2
   ·rw [if_neg z1,if_pos z2,z2,T2.get]; exact N2.rel
   ·rw [if_neg z1,if_neg z2]
    exact (I.rel i hi).ext ⟨Nat.le_succ _,fun j h=>if_neg (Nat.ne_of_lt h)⟩)
  I.gens rfl rfl
 exact ⟨_,rfl,rfl,J.1,J.2,Nat.lt_succ_self _,congrArg Value.ref (if_pos rfl).symm⟩
theorem D8d {w:World} {D:Gd} {ans:AV → AV → Option (AV × AV)} {t1 t2:Nat} (g:Gr w D) (ok:F1c D ans) (HC1:CodeHd D.b0 34 30) (HC2:CodeHd D.b0 41 37) (f:∃ o fd,D.b0.get? 56 = some o ∧ o.data = .func fd):PrimR Pr w D 56 0 (pDm t1 t2 ans):=by
 intro vs us c A d env v H _ h I rs K
 refine ⟨f,?_⟩
 refine B0a h fun p ep h=>B0a h fun z ez h=>gdP h fun h1 h=>gdP h fun h2 h=>B0j h ?_
 obtain ⟨x,y⟩:=p
 obtain ⟨q,r⟩:=z
 replace rs:=(C2c ep) ▸ rs
 (refine x2a7 (ok x y q r ez) fun a dd ox oy hd hb hab oq or=>?_)
 refine vC rs fun Z Z r1 rs=>?_
 refine vC rs fun Z Z r2 rs=>?_
 refine vN rs ?_
 (obtain ⟨ta,e98⟩:=ox _ _ r1; refine eqQ e98 ?_)
 (obtain ⟨tb,e98⟩:=oy _ _ r2; refine eqQ e98 ?_)
 obtain ⟨o1,T1⟩:=D1s I h1
 obtain ⟨o2,T2⟩:=D1s I h2
 have nt:t1 ≠ t2:=fun z=>by
  have e:=T1.mu
  rw [z,T2.mu] at e
  exact absurd e (by decide)
 obtain ⟨b,L,m,R,B⟩:=C8s g I K (c.ent t1 ++ c.ent t2) (fun p hp=>(List.mem_append.mp hp).elim (fun y=>⟨I.hold _ T1.ht p y,t1,T1.ht,p,y,rfl⟩) fun y=>⟨I.hold _ T2.ht p y,t2,T2.ht,p,y,rfl⟩) (by
  rw [List.map_append,List.nodup_append]
  refine ⟨I.nd _ T1.ht,I.nd _ T2.ht,fun x hx y hy q=>?_⟩
  obtain ⟨p,hp,rfl⟩:=List.mem_map.mp hx
  obtain ⟨p',hp',rfl⟩:=List.mem_map.mp hy
  exact I.dis t1 t2 T1.ht T2.ht nt p hp p' hp' q)
 exact B2o (B.C.mono (by decide)) (HC1.keeps B.sub) (HC2.keeps B.sub) B.F B.G (by rw [List.append_assoc]) T1.st T2.st hd hb hab (D6a I T1 T2 B oq or)
end Ab
end
section
namespace Ab
open Mine (C3b inQ inW B8w B6j B8f B8e)
theorem C7l (c:Nat):C3b c = B9u c:=by
 unfold C3b
 rw [StrLaws.found_one]
 have e:(Str.ofString "\n\t\r ").cps.toList = [10,9,13,32]:=by decide
 have:((Str.ofString "\n\t\r ").cps.contains c) = B9u c:=by
  (refine eqR Array.contains_toList ?_; refine eqQ e ?_)
  unfold B9u
  rw [B2g]
  exact List.elem_eq_mem c _
 first | exact this | simpa using this
theorem B3o (t:List Nat) (c:Nat):(⟨t.reverse.toArray⟩:Str) ++ ⟨#[c]⟩ = ⟨(c :: t).reverse.toArray⟩:=by
 simp only [show (⟨#[c]⟩:Str) = ⟨[c].toArray⟩ from rfl,B2l,List.reverse_cons]
theorem C9q (t:List Nat):(⟨t.reverse.toArray⟩:Str) ++ ⟨#[]⟩ = ⟨t.reverse.toArray⟩:=by
 simp only [show (⟨#[]⟩:Str) = ⟨([]:List Nat).toArray⟩ from rfl,B2l,List.append_nil]
theorem C2g {e:Nat → Bool} {t r:List Nat} {c:Nat} (h:e c = true):B4d e (c :: r) false t = (t.reverse,r):=by
 show (match e c with | true=>(t.reverse,r) | false=>_) = _
 rw [h]
theorem C5m {e:Nat → Bool} {t r:List Nat} {c:Nat} (h:e c = false) (h2:c ≠ 92):B4d e (c :: r) false t = B4d e r false (c :: t):=by
 show (match e c with | true=>(t.reverse,r) | false=>match Nat.beq c 92 with | true=>_ | false=>B4d e r false (c :: t)) = _
 rw [h,show Nat.beq c 92 = false by rw [BT.beq_eq]; exact decide_eq_false h2]
theorem C5n {e:Nat → Bool} {t r:List Nat} {c:Nat} (h:e c = false) (h2:c = 92):B4d e (c :: r) false t = B4d e r true t:=by
 subst h2
 show (match e 92 with | true=>(t.reverse,r) | false=>B4d e r true t) = _
 rw [h]
theorem B9v {f:List Nat → Str → Str × List Nat} {e:Nat → Bool} (h0:∀ x,f [] x = (x,[])) (h1:∀ c r x,f (c :: r) x = if e c = true then (x,r) else if c = 92 then B6j f r x else f r (x ++ ⟨#[c]⟩)):∀ (l t:List Nat),f l ⟨t.reverse.toArray⟩ = (⟨(B4d e l false t).1.toArray⟩,(B4d e l false t).2)
 | [],t=>h0 _
 | [c],t=>by
  rw [h1]
  cases he:e c with
  | true=>rw [if_pos rfl,C2g he]
  | false =>
   rw [if_neg Bool.false_ne_true]
   by_cases h2:c = 92
   ·rw [if_pos h2,C5n he h2]
    show f [] (_ ++ ⟨#[]⟩) = _
    rw [C9q]
    exact h0 _
   ·rw [if_neg h2,C5m he h2,B3o]
    exact B9v h0 h1 [] (c :: t)
 | c :: d :: r,t=>by
  rw [h1]
  cases he:e c with
  | true=>rw [if_pos rfl,C2g he]
  | false =>
   rw [if_neg Bool.false_ne_true]
   by_cases h2:c = 92
   ·rw [if_pos h2,C5n he h2]
    show f r (_ ++ ⟨#[d]⟩) = _
    rw [B3o]
    exact B9v h0 h1 r (d :: t)
   ·rw [if_neg h2,C5m he h2,B3o]
    exact B9v h0 h1 (d :: r) (c :: t)
theorem D8x (l t:List Nat):inQ l ⟨t.reverse.toArray⟩ = (⟨(B4d isQ l false t).1.toArray⟩,(B4d isQ l false t).2):=B9v (fun _=>rfl) (fun c r x=>(B8f c r x).trans (by by_cases h:c = 34 <;> simp [isQ,h])) l t
theorem D2k (l t:List Nat):inW l ⟨t.reverse.toArray⟩ = (⟨(B4d B9u l false t).1.toArray⟩,(B4d B9u l false t).2):=B9v (fun _=>rfl) (fun c r x=>(B8e c r x).trans (by rw [C7l])) l t
theorem C2f (c:Nat) (r:List Nat):tok (c :: r) = match B9u c with | true=>tok r | false=>match Nat.beq c 34 with | true=>B4d isQ r false [] | false=>match Nat.beq c 92 with | true=>B4d B9u r true [] | false=>B4d B9u r false [c]:=rfl
theorem C0k:∀ l:List Nat,B8w l = (⟨(tok l).1.toArray⟩,(tok l).2)
 | []=>by show (Str.ofString "",_) = _; rw [show Str.ofString "" = ⟨#[]⟩ from by decide]; rfl
 | c :: r=>by
  have e0:Str.ofString "" = ⟨([]:List Nat).reverse.toArray⟩:=by decide
  rw [B8w,C2f]
  simp only [C7l,BT.beq_eq,e0]
  cases h:B9u c
  ·by_cases h1:c = 34
   ·simp only [h1,decide_true,if_true,Bool.false_eq_true,if_false]
    exact D8x r []
   ·by_cases h2:c = 92
    ·simp only [h1,h2,decide_true,decide_false,if_true,Bool.false_eq_true,if_false]
     cases r with
     | nil=>rfl
     | cons d r =>
      simp only [B6j]
      rw [B3o]
      exact D2k r [d]
    ·simp only [h1,h2,decide_false,Bool.false_eq_true,if_false]
     rw [B3o]
     exact D2k r [c]
  ·simp only [if_true]
   exact C0k r
theorem B3n (e:Nat → Bool):∀ (l:List Nat) (b:Bool) (t:List Nat),(B4d e l b t).1.Sublist (t.reverse ++ l)
 | [],b,t=>List.sublist_append_left _ _
 | c :: r,b,t=>by
  have st:(B4d e r false (c :: t)).1.Sublist (t.reverse ++ c :: r):=(B3n e r false (c :: t)).trans (by rw [List.reverse_cons,List.append_assoc]; exact .refl _)
  have key:∀ b1 b2 b3:Bool,(match b1 with | true=>B4d e r false (c :: t) | false=>match b2 with | true=>(t.reverse,r) | false=>match b3 with | true=>B4d e r true t | false=>B4d e r false (c :: t)).1.Sublist (t.reverse ++ c :: r):=by
   intro b1 b2 b3
   cases b1 with
   | true=>exact st
   | false =>
    cases b2 with
    | true=>exact List.sublist_append_left _ _
    | false =>
     cases b3 with
     | true=>exact (B3n e r true t).trans ((List.Sublist.refl _).append (.cons c (.refl _)))
     | false=>exact st
  exact key b (e c) (Nat.beq c 92)
theorem C0j:∀ (l:List Nat),(tok l).1.Sublist l
 | []=>.refl _
 | c :: r=>by
  have key:∀ b1 b2 b3:Bool,(match b1 with | true=>tok r | false=>match b2 with | true=>B4d isQ r false [] | false=>match b3 with | true=>B4d B9u r true [] | false=>B4d B9u r false [c]).1.Sublist (c :: r):=by
   intro b1 b2 b3
   cases b1 with
   | true=>exact .cons c (C0j r)
   | false =>
    cases b2 with
    | true=>exact .cons c (B3n _ r _ [])
    | false =>
     cases b3 with
     | true=>exact .cons c (B3n _ r _ [])
     | false=>exact B3n _ r _ [c]
  exact key (B9u c) (Nat.beq c 34) (Nat.beq c 92)
theorem D3s (l:List Nat) (a:Nat) (h:a ∈ (tok l).1):a ∈ l:=(C0j l).subset h
theorem D3t (l:List Nat):(tok l).1.length ≤ l.length:=(C0j l).length_le
end Ab
end
section
namespace Mine
theorem C1f {w:World} {A:Around} {b:Heap} {L:Addr} {s:Shared} {m:Str → Option Value} {z:LexA} {ln:Int} {t1:Tok} {pb:List Value} {n:Nat} {R:List (Addr × Obj)} {Q:Value × List Value → Shared → Prop} {pl:Sem Bool}
 (C:Cal w b L 5 A) (F:Fr b L s.heap m) (D:Led b L s.heap (z.news w.params ln t1 pb n ++ R)) (h:Q (.ref 112,[.ref z.x]) s) :
 wpAny (model Pr w) A (getMethod (.ref z.x) "push_token" pl) Q Nev s:=by
 obtain ⟨A₀,base,env,outer,lo,mean,mg,mb,dp,gd,un,B,hf,hke,T,hroom,hunits,X⟩:=C
 have N:=D.n
 simp only [LexA.news,LexA.oLine,LexA.oStrm,ent,List.cons_append,List.nil_append] at N
 walk1
 exact h
theorem C7q {w:World} {A:Around} {b:Heap} {L:Addr} {s:Shared} {m:Str → Option Value} {z:LexA} {ln:Int} {t1:Tok} {pb:List Value} {n:Nat} {R:List (Addr × Obj)} {Q:Value × List Value → Shared → Prop} {pl:Sem Bool}
 (C:Cal w b L 5 A) (F:Fr b L s.heap m) (D:Led b L s.heap (z.news w.params ln t1 pb n ++ R)) (h:Q (.ref 105,[.ref z.x]) s) :
 wpAny (model Pr w) A (getMethod (.ref z.x) "get_token" pl) Q Nev s:=by
 obtain ⟨A₀,base,env,outer,lo,mean,mg,mb,dp,gd,un,B,hf,hke,T,hroom,hunits,X⟩:=C
 have N:=D.n
 simp only [LexA.news,LexA.oLine,LexA.oStrm,ent,List.cons_append,List.nil_append] at N
 walk1
 exact h
theorem C1h {w:World} {A:Around} {b:Heap} {L:Addr} {s:Shared} {m:Str → Option Value} {z:LexA} {ln:Int} {t1:Tok} {pb:List Value} {n:Nat} {R:List (Addr × Obj)} {Q:Value → Shared → Prop}
 (C:Cal w b L 5 A) (F:Fr b L s.heap m) (D:Led b L s.heap (z.news w.params ln t1 pb n ++ R)) (h:Q (.int ln t1) { s with toks:=s.toks + 1 }) :
 wpAny (model Pr w) A (getAttr (.ref z.x) "lineno" true) Q Nev s:=by
 obtain ⟨A₀,base,env,outer,lo,mean,mg,mb,dp,gd,un,B,hf,hke,T,hroom,hunits,X⟩:=C
 have N:=D.n
 simp only [LexA.news,LexA.oLine,LexA.oStrm,ent,List.cons_append,List.nil_append] at N
 walk1
 exact h
end Mine
end
section
namespace Ab
open Mine (Cal Led Pr LexA Piece lnOf B8w B5q B7u B8i C1f C7q C1h)
noncomputable def LX3 (w:World):LexR:=fun y k vs a e=>∃ (z:LexA) (V:Piece w z ⟨y.toArray⟩) (t1:Tok) (n:Nat) (pl:List (Addr × Obj)),a = z.x ∧ e = z.news w.params (lnOf ⟨y.toArray⟩ k) t1 vs n ++ pl ∧ V.St k pl
noncomputable def ws0 (c:Nat):Bool:=Ab.C0h c [9,13,32]
noncomputable def LXm (w:World):LexR:=fun y k vs a e=>∃ k0,k0 ≤ y.length ∧ (k0 = k ∨ (k = y.length ∧ (y.drop k0).all ws0 = true)) ∧ LX3 w y k0 vs a e
theorem B9c:∀ l:List Nat,l.all ws0 = true → Ab.tok l = ([],[])
 | [],J=>rfl
 | c :: l,h=>by
  rw [List.all_cons,Bool.and_eq_true] at h
  have hc:B9u c = true:=by
   have h1:=h.1
   unfold B9u
   rw [Ab.B2g]
   exact decide_eq_true (List.mem_cons_of_mem _ (of_decide_eq_true ((Ab.B2g c _).symm.trans h1)))
  rw [C2f]
  (refine eqQ hc ?_)
  exact B9c l h.2
theorem D3c:∀ l:List Nat,l.all ws0 = true → C3t 10 l = 0
 | [],J=>rfl
 | c :: l,h=>by
  rw [List.all_cons,Bool.and_eq_true] at h
  have:c ≠ 10:=by
   rintro rfl
   exact absurd h.1 (by decide)
  dsimp only [C3t]
  simp only [BT.beq_eq,decide_eq_false this]
  exact D3c l h.2
theorem D1c (c:Nat) (x y:List Nat):C3t c (x ++ y) = C3t c x + C3t c y:=by
 simp only [B4j,B4j,B4j,List.count_append]
theorem D5e (y:List Nat) (k:Nat):lnOf ⟨y.toArray⟩ k = lineNo y k:=by
 unfold lnOf lineNo
 rw [B4j]
theorem C3x {w:World} {D:Gd} {c:Cfg} {A:Around} {d:Nat} {env:Env} (g:Gr w D) (I:Inv D c) (K:AOk D A d c env) {i:Nat} (hi:i < c.H.n):∃ b L m R,Brg w D A c (c.ent i) b L m R :=
 C8s g I K (c.ent i) (fun p hp=>⟨I.hold i hi p hp,i,hi,p,hp,rfl⟩) (I.nd i hi)
structure Vw (U:List Nat → Nat → List Nat → Nat → Prop):Prop where
 le:∀ {y k y' j},U y k y' j → (y.length ≤ 900 ∧ ∀ c ∈ y,c < 0x110000) → j ≤ y'.length ∧ y'.length ≤ 900 ∧ ∀ c ∈ y',c < 0x110000
 tok:∀ {y k y' j},U y k y' j → Ab.tok (y.drop k) = Ab.tok (y'.drop j)
 nxt:∀ {y k y' j j'},U y k y' j → j' ≤ y'.length → y'.drop j' = (Ab.tok (y'.drop j)).2 → U y (y.length - (Ab.tok (y.drop k)).2.length) y' j'
 line:∀ {y k y' j},U y k y' j → y ≠ [] → lineNo y k = lineNo y' j
noncomputable def LXv (w:World) (U:List Nat → Nat → List Nat → Nat → Prop):LexR:=fun y k vs a e=>∃ y' j,U y k y' j ∧ LX3 w y' j vs a e
inductive LexAt (w:World) (D:Gd) (U:List Nat → Nat → List Nat → Nat → Prop) (c:Cfg) (A:Around) (i:Nat) (y:List Nat) (k:Nat) (pb:List AV):Prop
 | mk (y':List Nat) (j:Nat) (u:U y k y' j) (h1:y.length ≤ 900 ∧ ∀ c ∈ y,c < 0x110000) (h2:pb.length ≤ 901) (h3:k ≤ y.length) (vs:List Value) (rv:VRs D.θ c pb vs) (z:LexA) (V:Piece w z ⟨y'.toArray⟩) (t1:Tok) (n:Nat) (pl:List (Addr × Obj)) (hx:c.mu i = z.x)
  (he:c.ent i = z.news w.params (lnOf ⟨y'.toArray⟩ j) t1 vs n ++ pl) (hst:V.St j pl) (b:Heap) (L:Addr) (m:Str → Option Value) (R:List (Addr × Obj)) (B:Brg w D A c (c.ent i) b L m R) (G:Led b L c.s.heap (z.news w.params (lnOf ⟨y'.toArray⟩ j) t1 vs n ++ (pl ++ R)))
theorem C7d {w:World} {D:Gd} {U:List Nat → Nat → List Nat → Nat → Prop} (g:Gr w D) (hL:D.LX = LXv w U) {c:Cfg} {A:Around} {d:Nat} {env:Env} (I:Inv D c) (K:AOk D A d c env) {i:Nat} (hi:i < c.H.n) {y:List Nat} {k:Nat} {pb:List AV} (q:c.H.get i = .lex y k pb):LexAt w D U c A i y k pb:=by
 have ro:=I.rel i hi
 rw [q] at ro
 k_extra "fG"; obtain ⟨h1,h2,h3,vs,rv,hl⟩:=ro
 rw [hL] at hl
 obtain ⟨y',j,u,z,V,t1,n,pl,hx,he,hst⟩:=hl
 (refine C4f (C3x g I K hi) fun b L m R B=>?_)
 have G:=B.G
 rw [he,List.append_assoc] at G
 exact ⟨y',j,u,h1,h2,h3,vs,rv,z,V,t1,n,pl,hx,he,hst,b,L,m,R,B,G⟩
theorem D7l {i:Nat} {H:St} {r:AV × St} (h:mTok (.ref i) [] H = some r):tokA (H.get i) i H = some r:=h
theorem C2v {w:World} {D:Gd} {U:List Nat → Nat → List Nat → Nat → Prop} (W:Vw U) (g:Gr w D) (hL:D.LX = LXv w U) (f49:∃ o fd,D.b0.get? 112 = some o ∧ o.data = .func fd) (f42:∃ o fd,D.b0.get? 105 = some o ∧ o.data = .func fd):LexSpec Pr w D 112 105 where
 fpush:=f49
 ftok:=f42
 gpush:=fun I K hi q h=>by
  obtain ⟨y',j,u,h1,h2,h3,vs,rv,z,V,t1,n,pl,hx,he,hst,b,L,m,R,B,G⟩:=C7d g hL I K hi q
  rw [hx] at h ⊢
  exact C1f (B.C.mono (by decide)) B.F G h
 gtok:=fun I K hi q h=>by
  obtain ⟨y',j,u,h1,h2,h3,vs,rv,z,V,t1,n,pl,hx,he,hst,b,L,m,R,B,G⟩:=C7d g hL I K hi q
  rw [hx] at h ⊢
  exact C7q (B.C.mono (by decide)) B.F G h
 line:=fun I K hi q hy h=>by
  obtain ⟨y',j,u,h1,h2,h3,vs,rv,z,V,t1,n,pl,hx,he,hst,b,L,m,R,B,G⟩:=C7d g hL I K hi q
  rw [hx]
  refine C1h (B.C.mono (by decide)) B.F G ?_
  rw [D5e,← W.line u hy]
  exact h _ _
 push:=fun {A d c env i y k pb v x} I K hi q hpb rx=>by
  obtain ⟨y',j,u,h1,h2,h3,vs,rv,z,V,t1,n,pl,hx,he,hst,b,L,m,R,B,G⟩:=C7d g hL I K hi q
  rw [hx]
  have hlen:=rv.length
  refine B5q (B.C.mono (by decide)) B.F G (by exact om105 hpb hlen) fun h' tk F' G'=>?_
  rw [← List.append_assoc] at G'
  refine B.put (o:=.lex y k (pb ++ [v])) I hi F' G' (by rw [he]; rfl) ⟨h1,by rw [List.length_append]; exact Nat.succ_le_succ hpb,h3,vs ++ [x],rv.append (.cons rx .nil),?_⟩ rfl
  rw [hL,hx]
  exact ⟨y',j,u,z,V,t1,n + 1,pl,rfl,rfl,hst⟩
 tok:=fun {A d c env i v H} I K hi h=>by
  have h:=D7l (h ⟨[],[],fun Z=>Option.none,fun Z=>Option.none⟩)
  cases q:c.H.get i with
  | lex y k pb =>
   rw [q] at h
   obtain ⟨y',j,u,h1,h2,h3,vs,rv,z,V,t1,n,pl,hx,he,hst,b,L,m,R,B,G⟩:=C7d g hL I K hi q
   (refine eqQ hx ?_)
   cases pb with
   | cons p pb =>
    refine B0j h ?_
    k_extra "fG"; cases rv with
    | cons r1 rvs =>
     have hlen:=rvs.length
     rw [List.length_cons] at h2
     refine B7u (B.C.mono (by decide)) B.F G (by exact om107 h2 hlen) fun h' tk F' G'=>?_
     rw [← List.append_assoc] at G'
     refine B.put (o:=.lex y k pb) I hi F' G' (by (refine eqQ he ?_); rfl) ⟨h1,by exact om108 h2 hlen,h3,_,rvs,?_⟩ r1
     (refine eqQ hL ?_; refine eqQ hx ?_)
     exact ⟨y',j,u,z,V,t1,n + 1,pl,rfl,rfl,hst⟩
   | nil =>
    refine B0j h ?_
    k_extra "fG"; cases rv
    obtain ⟨w1,w2⟩:=W.le u h1
    refine B8i V (B.C.mono (by decide)) B.F G hst w1 (by show y'.length ≤ 1000; exact om109 w2) fun h' tk t t1' pl' j' F' G' hst' hk' hd=>?_
    have hd:y'.drop j' = (B8w (y'.drop j)).2:=hd
    rw [C0k] at hd
    k_extra "fG"; rw [← List.append_assoc] at G'
    show PV D c (.str (Ab.tok (y.drop k)).1) _ (.str (B8w (y'.drop j)).1 t) _
    rw [C0k,W.tok u]
    have ht:SOk (Ab.tok (y'.drop j)).1:=⟨by
     have a1:=D3t (y'.drop j)
     have a2:(y'.drop j).length ≤ y'.length:=by (refine eqQ List.length_drop ?_); exact Nat.sub_le _ _
     exact Nat.le_trans a1 (Nat.le_trans a2 (Nat.le_trans w2.1 (by decide))),fun ch hc=>w2.2 ch (List.mem_of_mem_drop (D3s _ _ hc))⟩
    refine B.put (o:=.lex y (y.length - (Ab.tok (y'.drop j)).2.length) []) I hi F' G' (by (refine eqQ he ?_; refine eqQ List.map_append ?_; refine eqQ List.map_append ?_; refine eqQ (V.adr hst hst') ?_); rfl) ⟨h1,Nat.zero_le _,Nat.sub_le _ _,[],.nil,?_⟩ ⟨ht,t,rfl⟩
    (refine eqQ hL ?_; refine eqQ hx ?_)
    exact ⟨y',j',W.tok u ▸ W.nxt u hk' hd,z,V,t1',n,pl',rfl,rfl,hst'⟩
  | _=>replace h:=q ▸ h; exact noP h
noncomputable def Um (y:List Nat) (k:Nat) (y':List Nat) (j:Nat):Prop:=y' = y ∧ j ≤ y.length ∧ (j = k ∨ (k = y.length ∧ (y.drop j).all ws0 = true))
theorem vwM:Vw Um where
 le:=fun ⟨e,h,_⟩ h1=>by subst e; exact ⟨h,h1⟩
 tok:=fun z9=>by
  obtain ⟨e,_,h⟩:=z9
  subst e
  rcases h with rfl | ⟨rfl,hw⟩
  ·rfl
  ·rw [B9c _ hw,List.drop_length]; rfl
 nxt:=fun {y k y' j j'} ⟨e,_,h⟩ h2 hd=>by
  subst e
  have et:Ab.tok (y'.drop k) = Ab.tok (y'.drop j):=by
   rcases h with rfl | ⟨rfl,hw⟩
   ·rfl
   ·(refine eqQ (B9c _ hw) ?_; refine eqQ List.drop_length ?_); rfl
  refine ⟨rfl,h2,.inl ?_⟩
  (refine eqQ et ?_; refine eqR hd ?_; refine eqQ List.length_drop ?_)
  exact (Nat.sub_sub_self h2).symm
 line:=fun {y k y' j} ⟨e,h1,h⟩ Z=>by
  subst e
  rcases h with rfl | ⟨rfl,hw⟩
  ·rfl
  ·unfold lineNo
   have e:C3t 10 (y'.take y'.length) = C3t 10 (y'.take j):=by
    (refine eqQ List.take_length ?_)
    conv=>lhs; rw [← List.take_append_drop j y']
    simp only [D1c,D3c _ hw,Nat.add_zero]
   (exact eqQ e rfl)
theorem F0x (w:World):LXm w = LXv w Um:=by
 funext y k vs a e
 refine propext ⟨?_,?_⟩
 ·rintro ⟨j,h1,h2,h3⟩; exact ⟨y,j,⟨rfl,h1,h2⟩,h3⟩
 ·rintro ⟨_,j,⟨e1,h1,h2⟩,h3⟩; exact ⟨j,h1,h2,eqR e1 h3⟩
theorem B5g {w:World} {D:Gd} (g:Gr w D) (hL:D.LX = LXm w) (f49:∃ o fd,D.b0.get? 112 = some o ∧ o.data = .func fd) (f42:∃ o fd,D.b0.get? 105 = some o ∧ o.data = .func fd):LexSpec Pr w D 112 105:=C2v vwM g (hL.trans (F0x w)) f49 f42
end Ab
end
section
namespace Ab
open Mine (B1v B0l B1k B0f B0t B3y B1m)
noncomputable def B1a:Bool → List Nat → Option (List Nat)
 | e,[]=>none
 | e,c :: r=>match e with
  | true=>B1a false r
  | false=>match Nat.beq c 92 with
   | true=>B1a true r
   | false=>match Nat.beq c 34 with
    | true=>some r
    | false=>B1a false r
noncomputable def B4s:Nat → Bool → List Nat → List Nat
 | 0,e,l=>[]
 | n + 1,e,[]=>[]
 | n + 1,e,c :: r=>match e with
  | true=>c :: B4s n false r
  | false=>match Nat.beq c 92 with
   | true=>c :: B4s n true r
   | false=>match Nat.beq c 34 with
    | true=>B0h (B1a false r) (fun r'=>B4s n false r') (c :: r)
    | false=>c :: B4s n false r
noncomputable def B1u (l:List Str):List Nat:=@List.rec Str (fun _=>List Nat) [] (fun p _ ih=>p.cps.toList ++ ih) l
theorem D5h {p:Str} {r:List Str}:B1u (p :: r) = p.cps.toList ++ B1u r:=rfl
theorem B5z:∀ (a b:List Str),B1u (a ++ b) = B1u a ++ B1u b
 | [],b=>rfl
 | p :: a,b=>by
  show p.cps.toList ++ B1u (a ++ b) = (p.cps.toList ++ B1u a) ++ B1u b
  simp only [B5z,List.append_assoc]
theorem D9b:∀ (l:List Str) (acc:Array Nat),(l.foldl (fun acc p=>acc ++ (Str.ofString "").cps ++ p.cps) acc).toList = acc.toList ++ B1u l
 | [],acc=>(List.append_nil _).symm
 | p :: l,acc=>by
  simp only [List.foldl_cons,D9b l]
  have e:(Str.ofString "").cps = #[]:=by decide
  simp [e,D5h]
theorem D0k (l:List Str):(Txt.join (Str.ofString "") l).cps.toList = B1u l:=by
 cases l with
 | nil=>rfl
 | cons p r=>exact D9b r p.cps
theorem C5x {y:List Nat} {k o:Nat} (h1:k ≤ o) (h2:o ≤ y.length):(Txt.slice ⟨y.toArray⟩ (some (k:Int)) (some (o:Int))).cps.toList = (y.take o).drop k:=by
 rw [B8z]
 k_extra "fG"; have e1:B1q y.length 0 (some (k:Int)) = k:=by
  show (match Nat.ble k y.length with | true=>k | false=>y.length) = k
  (exact eqQ (Nat.ble_eq_true_of_le (Nat.le_trans h1 h2)) rfl)
 have e2:B1q y.length y.length (some (o:Int)) = o:=by
  show (match Nat.ble o y.length with | true=>o | false=>y.length) = o
  (exact eqQ (Nat.ble_eq_true_of_le h2) rfl)
 show (y.drop (B1q y.length 0 (some (k:Int)))).take (B1q y.length y.length (some (o:Int)) - B1q y.length 0 (some (k:Int))) = _
 (refine eqQ e1 ?_; refine eqQ e2 ?_; exact eqQ List.drop_take rfl)
theorem C5y {y:List Nat} {k:Nat} (h1:k ≤ y.length):(Txt.slice ⟨y.toArray⟩ (some (k:Int)) none).cps.toList = y.drop k:=by
 rw [B8z]
 have e1:B1q y.length 0 (some (k:Int)) = k:=by
  show (match Nat.ble k y.length with | true=>k | false=>y.length) = k
  (exact eqQ (Nat.ble_eq_true_of_le h1) rfl)
 show (y.drop (B1q y.length 0 (some (k:Int)))).take (y.length - B1q y.length 0 (some (k:Int))) = _
 (refine eqQ e1 ?_)
 exact List.take_of_length_le (by (refine eqQ List.length_drop ?_); exact Nat.le_refl _)
noncomputable def D5r (y:List Nat) (st:Int × Option Int × List Str):List Nat:=(Txt.join (Str.ofString "") (if st.1 < ((⟨y.toArray⟩:Str).length:Int) then st.2.2 ++ [Txt.slice ⟨y.toArray⟩ (some st.1) none] else st.2.2)).cps.toList
theorem C7w (y:List Nat) (k:Nat) (o:Option Int) (ps:List Str):D5r y ((k:Int),o,ps) = B1u ps ++ y.drop k:=by
 unfold D5r
 rw [D0k]
 have e:(⟨y.toArray⟩:Str).length = y.length:=rfl
 by_cases h:k < y.length
 ·rw [if_pos (by rw [e]; exact Int.ofNat_lt.mpr h),B5z]
  show B1u ps ++ ((Txt.slice ⟨y.toArray⟩ (some (k:Int)) none).cps.toList ++ []) = _
  rw [C5y (Nat.le_of_lt h),List.append_nil]
 ·rw [if_neg (by rw [e]; exact fun z=>h (Int.ofNat_lt.mp z)),List.drop_of_length_le (Nat.not_lt.mp h),List.append_nil]
theorem C0l {y:Str} {st:Int × Option Int × List Str} {i:Int} {s:Str} (h:s ≠ ⟨#[34]⟩):B0l y st (i,s) = st:=by
 have e:Str.ofString "\"" = ⟨#[34]⟩:=by decide
 exact if_neg (by (refine eqQ e ?_); simpa using h)
theorem D7o {y:Str} {st:Int × Option Int × List Str} {i:Int}:B0l y st (i,⟨#[34]⟩) = (match st.2.1 with
  | none=>(st.1,some i,st.2.2)
  | some o=>(i + 1,none,if st.1 = o then st.2.2 else st.2.2 ++ [Txt.slice y (some st.1) (some o)])):=by
 have e:Str.ofString "\"" = ⟨#[34]⟩:=by decide
 exact if_pos (by (refine eqQ e ?_); rfl)
noncomputable def goQ (y:List Nat) (i:Nat) (e:Bool) (l:List Nat) (st:Int × Option Int × List Str):List Nat:=D5r y ((B0f i e l).foldl (B0l ⟨y.toArray⟩) st)
theorem D2m {y:List Nat} {i c:Nat} {r:List Nat} {st:Int × Option Int × List Str}:goQ y i true (c :: r) st = goQ y (i + 1) false r st:=by
 show D5r y ((((i:Int),⟨#[92,c]⟩) :: B0f (i + 1) false r).foldl (B0l ⟨y.toArray⟩) st) = _
 (refine eqQ List.foldl_cons ?_; refine eqQ (C0l (by intro q; simp at q)) ?_)
 rfl
theorem D9a {y:List Nat} {i:Nat} {r:List Nat} {st:Int × Option Int × List Str}:goQ y i false (92 :: r) st = goQ y (i + 1) true r st:=rfl
theorem D8z {y:List Nat} {i c:Nat} {r:List Nat} {st:Int × Option Int × List Str} (h:c ≠ 92) (h2:c ≠ 34):goQ y i false (c :: r) st = goQ y (i + 1) false r st:=by
 unfold goQ
 (refine eqQ (B0t h) ?_; refine eqQ List.foldl_cons ?_; exact eqQ (C0l (by intro q; simp at q; exact h2 q)) rfl)
theorem go_q {y:List Nat} {i:Nat} {r:List Nat} {st:Int × Option Int × List Str}:goQ y i false (34 :: r) st = goQ y (i + 1) false r (match st.2.1 with
  | none=>(st.1,some (i:Int),st.2.2)
  | some o=>((i:Int) + 1,none,if st.1 = o then st.2.2 else st.2.2 ++ [Txt.slice ⟨y.toArray⟩ (some st.1) (some o)])):=by
 unfold goQ
 rw [B0t (by decide),List.foldl_cons,D7o]
theorem D2l {y:List Nat} {i:Nat} {e:Bool} {st:Int × Option Int × List Str}:goQ y i e [] st = D5r y st:=by
 cases e with
 | false=>rfl
 | true =>
  show D5r y (B0l ⟨y.toArray⟩ st (((i - 1:Nat):Int),⟨#[92]⟩)) = _
  (exact eqQ (C0l (by decide)) rfl)
theorem D4r (n:Nat) (e:Bool):B4s n e [] = []:=by cases n <;> rfl
theorem D4x {y pre:List Nat} {l:List Nat} (hy:y = pre ++ l) {o:Nat} (h:o ≤ pre.length):o ≤ y.length ∧ y.take o = pre.take o:=by
 refine eqQ hy ?_
 exact ⟨Nat.le_trans h (by (refine eqQ List.length_append ?_); exact Nat.le_add_right ..),List.take_append_of_le_length h⟩
noncomputable def goA (y l:List Nat) (e:Bool) (n:Nat) (pre:List Nat) (k:Nat) (ps:List Str):Prop:=goQ y pre.length e l ((k:Int),none,ps) = B1u ps ++ (pre.drop k ++ B4s n e l)
noncomputable def goB (y l:List Nat) (e:Bool) (n:Nat) (pre:List Nat) (k:Nat) (ps:List Str):Prop:=∀ o:Nat,k ≤ o → o < pre.length → goQ y pre.length e l ((k:Int),some (o:Int),ps) = B0h (B1a e l) (fun r=>B1u ps ++ ((pre.take o).drop k ++ B4s n false r)) (B1u ps ++ y.drop k)
theorem C9p (y:List Nat):∀ (l:List Nat) (e:Bool) (n:Nat) (pre:List Nat),y = pre ++ l → l.length ≤ n → ∀ (k:Nat) (ps:List Str),k ≤ pre.length → goA y l e n pre k ps ∧ goB y l e n pre k ps:=by
 intro l
 induction l with
 | nil =>
  intro e n pre hy hn k ps hk
  have hy:y = pre:=by simp only [hy,List.append_nil]
  refine ⟨?_,fun o h1 h2=>?_⟩
  ·unfold goA
   simp only [D2l,D4r,C7w,hy,List.append_nil]
  ·simp only [D2l,C7w]
   rfl
 | cons c r ih =>
  intro e n pre hy hn k ps hk
  have hy':y = (pre ++ [c]) ++ r:=by simp only [hy,List.append_assoc]; rfl
  have hl:(pre ++ [c]).length = pre.length + 1:=by (refine eqQ List.length_append ?_); rfl
  have hk':k ≤ (pre ++ [c]).length:=by (refine eqQ hl ?_); exact Nat.le_succ_of_le hk
  have ed:(pre ++ [c]).drop k = pre.drop k ++ [c]:=List.drop_append_of_le_length hk
  have et:∀ o,o < pre.length → (pre ++ [c]).take o = pre.take o:=fun o h=>List.take_append_of_le_length (Nat.le_of_lt h)
  have app:∀ z:List Nat,(pre.drop k ++ [c]) ++ z = pre.drop k ++ c :: z:=fun z=>by rw [List.append_assoc]; rfl
  cases n with
  | zero=>exact absurd hn (Nat.not_succ_le_zero _)
  | succ n =>
   have hn':r.length ≤ n:=Nat.le_of_succ_le_succ hn
   have skA:∀ e',goQ y pre.length e (c :: r) ((k:Int),none,ps) = goQ y (pre.length + 1) e' r ((k:Int),none,ps) → B4s (n + 1) e (c :: r) = c :: B4s n e' r → goA y (c :: r) e (n + 1) pre k ps:=fun e' h1 h2=>by
    have z:=(ih e' n (pre ++ [c]) hy' hn' k ps hk').1
    unfold goA at z ⊢
    rw [hl,ed] at z
    simp only [h1,h2,z,app]
   have skB:∀ e',(∀ st,goQ y pre.length e (c :: r) st = goQ y (pre.length + 1) e' r st) → B1a e (c :: r) = B1a e' r → goB y (c :: r) e (n + 1) pre k ps:=fun e' h1 h2 o h3 h4=>by
    have z:=(ih e' (n + 1) (pre ++ [c]) hy' (Nat.le_succ_of_le hn') k ps hk').2 o h3 (by (refine eqQ hl ?_); exact Nat.lt_succ_of_lt h4)
    rw [hl,et o h4] at z
    simp only [h1,h2,z]
   cases e with
   | true=>exact ⟨skA false D2m rfl,skB false (fun st=>D2m) rfl⟩
   | false =>
    by_cases e1:c = 92
    ·k_extra "fG"; k_extra "fG"; subst e1
     exact ⟨skA true D9a rfl,skB true (fun st=>D9a) rfl⟩
    ·have b1:Nat.beq c 92 = false:=by rw [BT.beq_eq]; exact decide_eq_false e1
     by_cases e2:c = 34
     ·(clear e1; subst e2)
      refine ⟨?_,fun o h3 h4=>?_⟩
      ·have z:=(ih false n (pre ++ [34]) hy' hn' k ps hk').2 pre.length hk (by (refine eqQ hl ?_); exact Nat.lt_succ_self _)
       unfold goA
       simp only [go_q]
       rw [hl,List.take_append_of_le_length (Nat.le_refl _),List.take_length] at z
       refine z.trans ?_
       show _ = B1u ps ++ (pre.drop k ++ B0h (B1a false r) (fun r'=>B4s n false r') (34 :: r))
       cases B1a false r with
       | some r'=>rfl
       | none =>
        show B1u ps ++ y.drop k = B1u ps ++ (pre.drop k ++ 34 :: r)
        (refine eqQ hy ?_; exact eqQ (List.drop_append_of_le_length hk) rfl)
      ·have m:=D4x hy (Nat.le_of_lt h4)
       have key:∀ ps',B1u ps' = B1u ps ++ (pre.take o).drop k → goQ y (pre.length + 1) false r (((pre.length:Nat):Int) + 1,none,ps') = B1u ps ++ ((pre.take o).drop k ++ B4s (n + 1) false r):=fun ps' hp=>by
        have z:=(ih false (n + 1) (pre ++ [34]) hy' (Nat.le_succ_of_le hn') (pre.length + 1) ps' (by (refine eqQ hl ?_); exact Nat.le_refl _)).1
        unfold goA at z
        simp only [hl,List.drop_of_length_le (by (refine eqQ hl ?_); exact Nat.le_refl _),hp,List.nil_append,List.append_assoc] at z
        exact z
       (refine eqQ go_q ?_)
       show goQ y (pre.length + 1) false r (((pre.length:Nat):Int) + 1,none,if (k:Int) = (o:Int) then ps else ps ++ [Txt.slice ⟨y.toArray⟩ (some (k:Int)) (some (o:Int))]) = B1u ps ++ ((pre.take o).drop k ++ B4s (n + 1) false r)
       refine key _ ?_
       by_cases q:(k:Int) = (o:Int)
       ·(refine eqQ (if_pos q) ?_)
        have q:k = o:=Int.ofNat.inj q
        rw [q,List.drop_of_length_le (by rw [List.length_take]; exact Nat.min_le_left ..),List.append_nil]
       ·rw [if_neg q,B5z]
        show B1u ps ++ ((Txt.slice ⟨y.toArray⟩ (some (k:Int)) (some (o:Int))).cps.toList ++ []) = _
        simp only [List.append_nil,C5x h3 m.1,m.2]
     ·have b2:Nat.beq c 34 = false:=by rw [BT.beq_eq]; exact decide_eq_false e2
      refine ⟨skA false (D8z e1 e2) ?_,skB false (fun st=>D8z e1 e2) ?_⟩
      ·show (match Nat.beq c 92 with | true=>c :: B4s n true r | false=>match Nat.beq c 34 with | true=>B0h (B1a false r) (fun r'=>B4s n false r') (c :: r) | false=>c :: B4s n false r) = _
       (refine eqQ b1 ?_; exact eqQ b2 rfl)
      ·show (match Nat.beq c 92 with | true=>B1a true r | false=>match Nat.beq c 34 with | true=>some r | false=>B1a false r) = _
       (refine eqQ b1 ?_; exact eqQ b2 rfl)
theorem C5u {y:List Nat} (h:C0h 34 y = true):(B1v ⟨y.toArray⟩).cps.toList = B4s y.length false y:=by
 have ne:¬ (Builtin.Str.occurrences (⟨y.toArray⟩:Str) (Str.ofString "\"") 0 (⟨y.toArray⟩:Str).length 1).isEmpty = true:=by
  have e:Str.ofString "\"" = ⟨#[34]⟩:=by decide
  have f:=StrLaws.found_one (⟨y.toArray⟩:Str) 34
  (refine eqQ e ?_)
  rw [B2g] at h
  have hc:decide (34 ∈ (⟨y.toArray⟩:Str).cps.toList) = true:=by simpa using h
  rw [hc] at f
  simpa using f
 have z:=(C9p y y false y.length [] rfl (Nat.le_refl _) 0 [] (Nat.le_refl _)).1
 unfold goA goQ D5r at z
 have e:B1v ⟨y.toArray⟩ = Txt.join (Str.ofString "") (if (B1k ⟨y.toArray⟩).1 < ((⟨y.toArray⟩:Str).length:Int) then (B1k ⟨y.toArray⟩).2.2 ++ [Txt.slice ⟨y.toArray⟩ (some (B1k ⟨y.toArray⟩).1) none] else (B1k ⟨y.toArray⟩).2.2):=if_neg ne
 (refine eqQ e ?_)
 exact z
end Ab
end
section
set_option backward.match.sparseCases false
namespace Ab
open Mine (Cal Led Pr LexA Piece lnOf B3y B1v B1m B7g B6y Pick B0f B0t)
noncomputable def parG (l:List Nat):Bool → Nat → Bool:=@List.rec Nat (fun _=>Bool → Nat → Bool) (fun J n=>Nat.beq n 0) (fun c r ih e n=>match e with
  | true=>ih false n
  | false=>match Nat.beq c 92 with
   | true=>ih true n
   | false=>match Nat.beq c 40 with
    | true=>ih false (n + 1)
    | false=>match Nat.beq c 41 with
     | true=>(match n with | 0=>false | n + 1=>ih false n)
     | false=>ih false n) l
noncomputable def C0p (e:Bool) (n:Nat) (l:List Nat):Bool:=parG l e n
noncomputable def chO (g:Pc):Option Nat:=@Pc.casesOn (fun _=>Option Nat) g some (fun _=>Option.none) (fun _=>Option.none) (fun _=>Option.none)
noncomputable def vrO (g:Pc):Option Nat:=@Pc.casesOn (fun _=>Option Nat) g (fun _=>Option.none) some (fun _=>Option.none) (fun _=>Option.none)
noncomputable def esO (g:Pc):Option Nat:=@Pc.casesOn (fun _=>Option Nat) g (fun _=>Option.none) (fun _=>Option.none) some (fun _=>Option.none)
noncomputable def skQ (k:List Pc → Option (List Nat)) (r:List Pc):Option (List Nat):=match r with
 | []=>Option.none
 | h :: r=>B0h (chO h) (fun d=>match Nat.beq d 34 with | true=>k r | false=>Option.none) Option.none
noncomputable def skR (k:List Pc → Option (List Nat)) (c:Nat) (r:List Pc):Option (List Nat):=match r with
 | []=>Option.none
 | h :: r=>match Nat.beq c 92 with
  | true=>B0h (vrO h) (fun J=>k r) Option.none
  | false=>match Nat.beq c 34 with
   | true=>B0h (esO h) (fun J=>skQ k r) Option.none
   | false=>Option.none
noncomputable def skP (k:List Pc → Option (List Nat)) (c:Nat) (r:List Pc):Option (List Nat):=match Nat.beq c 40 with
 | true=>B0h (k r) (fun l=>some (40 :: l)) Option.none
 | false=>match Nat.beq c 41 with
  | true=>B0h (k r) (fun l=>some (41 :: l)) Option.none
  | false=>skR k c r
noncomputable def D6x (n:Nat):List Pc → Option (List Nat):=@Nat.rec (fun _=>List Pc → Option (List Nat)) (fun J=>Option.none) (fun J ih gs=>@List.casesOn Pc (fun _=>Option (List Nat)) gs (some []) fun g r=>B0h (chO g) (fun c=>skP ih c r) Option.none) n
theorem C3w {g:Pc} {c:Nat} (h:chO g = some c):g = .ch c:=by k_extra "g" <;> first | exact congrArg Pc.ch (oYY h) | exact noP h
theorem C9i {g:Pc} {c:Nat} (h:vrO g = some c):g = .var c:=by k_extra "g" <;> first | exact congrArg Pc.var (oYY h) | exact noP h
theorem D0w {g:Pc} {c:Nat} (h:esO g = some c):g = .esc c:=by k_extra "g" <;> first | exact congrArg Pc.esc (oYY h) | exact noP h
noncomputable def D8e (vs : List AV) (H : St) : Option (AV × St) := do
 let v ← one? vs
 let gs ← pcO v
 let n ← lenP gs
 gd (Nat.ble n 900)
 gd (gs.any fun g=>B0h (chO g) (fun c=>Nat.beq c 34) false)
 let sk ← D6x 100 gs
 some (.bool (C0p false 0 sk),H)
theorem B2v:∀ {l:List Nat} {e:Bool} {r:List Nat},B1a e l = some r → r.length ≤ l.length
 | [],e,r,h=>noP h
 | c :: l,true,r,h=>Nat.le_succ_of_le (B2v (l:=l) (e:=false) h)
 | c :: l,false,r,h=>by
  have h:(match Nat.beq c 92 with | true=>B1a true l | false=>match Nat.beq c 34 with | true=>some l | false=>B1a false l) = some r:=h
  cases q:Nat.beq c 92 with
  | true=>replace h:=q ▸ h; exact Nat.le_succ_of_le (B2v h)
  | false =>
   rw [q] at h
   cases q2:Nat.beq c 34 with
   | true=>rw [q2] at h; exact oYY h ▸ Nat.le_succ _
   | false=>rw [q2] at h; exact Nat.le_succ_of_le (B2v h)
theorem B3r:∀ (n:Nat) (e:Bool) (l:List Nat),(B4s n e l).length ≤ l.length
 | 0,e,l=>Nat.zero_le _
 | n + 1,e,[]=>Nat.zero_le _
 | n + 1,true,c :: l=>Nat.succ_le_succ (B3r n false l)
 | n + 1,false,c :: l=>by
  show (match Nat.beq c 92 with
   | true=>c :: B4s n true l
   | false=>match Nat.beq c 34 with
    | true=>B0h (B1a false l) (fun r'=>B4s n false r') (c :: l)
    | false=>c :: B4s n false l).length ≤ _
  cases q:Nat.beq c 92 with
  | true=>exact Nat.succ_le_succ (B3r n true l)
  | false =>
   cases q2:Nat.beq c 34 with
   | true =>
    show (B0h (B1a false l) (fun r'=>B4s n false r') (c :: l)).length ≤ _
    cases q3:B1a false l with
    | none=>exact Nat.le_refl _
    | some r=>exact Nat.le_succ_of_le (Nat.le_trans (B3r n false r) (B2v q3))
   | false=>exact Nat.succ_le_succ (B3r n false l)
theorem C4x (c:Nat) (r:List Nat):B1a false (C8c c ++ 34 :: r) = some r:=by
 unfold C8c
 cases q:C0h c [34,92] with
 | true=>rfl
 | false =>
  rw [B2g] at q
  have h:c ∉ [34,92]:=of_decide_eq_false q
  have h1:Nat.beq c 92 = false:=by rw [BT.beq_eq]; exact decide_eq_false fun z=>h (z ▸ .tail _ (.head _))
  have h2:Nat.beq c 34 = false:=by rw [BT.beq_eq]; exact decide_eq_false fun z=>h (z ▸ .head _)
  show (match Nat.beq c 92 with | true=>B1a true (34 :: r) | false=>match Nat.beq c 34 with | true=>some (34 :: r) | false=>B1a false (34 :: r)) = some r
  (refine eqQ h1 ?_; refine eqQ h2 ?_); rfl
theorem C9x (n:Nat):B4s n false [] = []:=by cases n <;> rfl
theorem B5m (θ:Nat → Int):∀ {n:Nat} {gs:List Pc} {sk:List Nat},D6x n gs = some sk → ∀ (f k:Nat),(B1o θ gs).length ≤ f → C0p false k (B4s f false (B1o θ gs)) = C0p false k sk
 | 0,gs,sk,h=>noP h
 | n + 1,[],sk,h=>fun f k hf=>by
  show C0p false k (B4s f false []) = _
  rw [C9x]
  exact congrArg (C0p false k) (oYY h)
 | n + 1,g :: gs,sk,h=>fun f k hf=>by
  refine B1i (show B0h (chO g) (fun c=>skP (D6x n) c gs) Option.none = some sk from h) (fun c hc h1=>?_) fun _ h1=>noP h1
  rw [C3w hc] at hf ⊢
  have hf1:(B1o θ gs).length + 1 ≤ f:=hf
  clear hf h hc
  obtain ⟨f,rfl⟩:∃ f',f = f' + 1:=⟨f - 1,(Nat.sub_add_cancel (Nat.le_trans (Nat.succ_le_succ (Nat.zero_le _)) hf1)).symm⟩
  have hf2:=Nat.le_of_succ_le_succ hf1
  clear hf1
  show C0p false k (B4s (f + 1) false (c :: B1o θ gs)) = _
  unfold skP at h1
  cases q:Nat.beq c 40 with
  | true =>
   replace h1:=q ▸ h1
   have ec:=Nat.eq_of_beq_eq_true q
   refine eqQ ec ?_
   refine B1i h1 (fun l hl h2=>?_) fun _ h2=>noP h2
   (refine eqR (oYY h2) ?_)
   exact B5m θ hl f (k + 1) hf2
  | false =>
  replace h1:=q ▸ h1
  cases q1:Nat.beq c 41 with
  | true =>
   replace h1:=q1 ▸ h1
   have ec:=Nat.eq_of_beq_eq_true q1
   refine eqQ ec ?_
   refine B1i h1 (fun l hl h2=>?_) fun _ h2=>noP h2
   (refine eqR (oYY h2) ?_)
   cases k with
   | zero=>rfl
   | succ k=>exact B5m θ hl f k hf2
  | false =>
  replace h1:=q1 ▸ h1
  cases gs with
  | nil=>exact noP h1
  | cons g2 gs =>
  have h1:(match Nat.beq c 92 with
   | true=>B0h (vrO g2) (fun J=>D6x n gs) Option.none
   | false=>match Nat.beq c 34 with
    | true=>B0h (esO g2) (fun J=>skQ (D6x n) gs) Option.none
    | false=>Option.none) = some sk:=h1
  cases q2:Nat.beq c 92 with
  | true =>
   replace h1:=q2 ▸ h1
   have ec:=Nat.eq_of_beq_eq_true q2
   refine eqQ ec ?_
   refine B1i h1 (fun j hj h2=>?_) fun _ h2=>noP h2
   rw [C9i hj] at hf2 ⊢
   have hf3:(B1o θ gs).length + 1 ≤ f:=hf2
   clear hf2
   obtain ⟨f,rfl⟩:∃ f',f = f' + 1:=⟨f - 1,(Nat.sub_add_cancel (Nat.le_trans (Nat.succ_le_succ (Nat.zero_le _)) hf3)).symm⟩
   exact B5m θ h2 f k (Nat.le_of_succ_le_succ hf3)
  | false =>
   replace h1:=q2 ▸ h1
   cases q3:Nat.beq c 34 with
   | false=>replace h1:=q3 ▸ h1; exact noP h1
   | true =>
    rw [q3] at h1
    have ec:=Nat.eq_of_beq_eq_true q3
    (clear h1; (clear q2; (clear q3; subst ec)))
    refine B1i h1 (fun j hj h2=>?_) fun _ h2=>noP h2
    rw [D0w hj] at hf2 ⊢
    cases gs with
    | nil=>exact noP h2
    | cons g3 gs =>
     refine B1i (show B0h (chO g3) (fun d=>match Nat.beq d 34 with | true=>D6x n gs | false=>Option.none) Option.none = some sk from h2) (fun d hd h3=>?_) fun _ h3=>noP h3
     rw [C3w hd] at hf2 ⊢
     cases q4:Nat.beq d 34 with
     | false=>rw [q4] at h3; exact noP h3
     | true =>
      rw [q4] at h3
      have ed:=Nat.eq_of_beq_eq_true q4
      (clear hd; (clear q4; subst ed))
      have hf3:(C8c (θ j).toNat ++ (34 :: B1o θ gs)).length ≤ f:=hf2
      show C0p false k (B0h (B1a false (C8c (θ j).toNat ++ 34 :: B1o θ gs)) (fun r'=>B4s f false r') _) = _
      rw [C4x]
      refine B5m θ h3 f k (Nat.le_trans ?_ hf3)
      simp only [List.length_append,List.length_cons]
      exact Nat.le_trans (Nat.le_succ _) (Nat.le_add_left _ _)
theorem F0v (θ:Nat → Int):∀ {gs:List Pc},gs.any (fun g=>B0h (chO g) (fun c=>Nat.beq c 34) false) = true → 34 ∈ B1o θ gs
 | [],h=>fT h
 | g :: gs,h=>by
  rw [List.any_cons,Bool.or_eq_true] at h
  show 34 ∈ D2w θ g ++ B1o θ gs
  rcases h with h | h
  ·cases g with
   | ch c=>exact List.mem_append_left _ (List.mem_singleton.mpr (Nat.eq_of_beq_eq_true h).symm)
   | _=>exact fT h
  ·exact List.mem_append_right _ (F0v θ h)
theorem C2p:∀ l:List (Int × Str),l.foldl B1m Option.none = Option.none
 | []=>rfl
 | x :: l=>C2p l
theorem B3g (n i:Int) (s:Str):B1m (some n) (i,s) = if s = ⟨#[40]⟩ then some (n + 1) else if s = ⟨#[41]⟩ then (if n - 1 < 0 then Option.none else some (n - 1)) else some n:=by
 show (if (s == Str.ofString "(") = true then some (n + 1) else if (s == Str.ofString ")") = true then (if n - 1 < 0 then Option.none else some (n - 1)) else some n) = _
 have e1:Str.ofString "(" = ⟨#[40]⟩:=by decide
 have e2:Str.ofString ")" = ⟨#[41]⟩:=by decide
 simp only [e1,e2,beq_iff_eq]
noncomputable abbrev C9w (n:Nat) (l:List (Int × Str)):Bool:=match l.foldl B1m (some (n:Int)) with | Option.none=>false | some n=>decide (n = 0)
theorem C2q (n:Nat):C9w n [] = Nat.beq n 0:=by
 show decide ((n:Int) = 0) = Nat.beq n 0
 rw [BT.beq_eq]
 by_cases h:n = 0 <;> simp [h]
theorem B5s {n:Nat} {i:Int} {s:Str} {l:List (Int × Str)} (h1:s ≠ ⟨#[40]⟩) (h2:s ≠ ⟨#[41]⟩):C9w n ((i,s) :: l) = C9w n l:=by
 unfold C9w
 rw [List.foldl_cons,B3g,if_neg h1,if_neg h2]
theorem B2r:∀ (y:List Nat) (e:Bool) (n i:Nat),C9w n (B0f i e y) = C0p e n y
 | [],false,n,i=>C2q n
 | [],true,n,i=>by
  show C9w n [_] = _
  (refine eqQ (B5s (by decide) (by decide)) ?_)
  exact C2q n
 | c :: r,true,n,i=>by
  k_extra "fG"; show C9w n (_ :: B0f (i + 1) false r) = C0p false n r
  (refine eqQ (B5s (by intro q; simp at q) (by intro q; simp at q)) ?_)
  exact B2r r false n (i + 1)
 | c :: r,false,n,i=>by
  show _ = match Nat.beq c 92 with
   | true=>C0p true n r
   | false=>match Nat.beq c 40 with
    | true=>C0p false (n + 1) r
    | false=>match Nat.beq c 41 with
     | true=>(match n with | 0=>false | n + 1=>C0p false n r)
     | false=>C0p false n r
  simp only [BT.beq_eq,BT.beq_eq,BT.beq_eq]
  by_cases e:c = 92
  ·(refine eqQ (decide_eq_true e) ?_; refine eqQ e ?_)
   exact B2r r true n (i + 1)
  ·simp only [decide_eq_false e,B0t e]
   by_cases e4:c = 40
   ·(refine eqQ (decide_eq_true e4) ?_; refine eqQ e4 ?_)
    unfold C9w
    rw [List.foldl_cons,B3g,if_pos rfl]
    exact B2r r false (n + 1) (i + 1)
   ·simp only [decide_eq_false e4]
    by_cases e5:c = 41
    ·(refine eqQ (decide_eq_true e5) ?_; refine eqQ e5 ?_)
     unfold C9w
     rw [List.foldl_cons,B3g,if_neg (by decide),if_pos rfl]
     cases n with
     | zero=>rw [if_pos (by decide),C2p]
     | succ n =>
      (refine eqQ (if_neg (by push_cast; omega)) ?_; refine eqQ (show ((n + 1:Nat):Int) - 1 = (n:Int) by push_cast; omega) ?_)
      exact B2r r false n (i + 1)
    ·(refine eqQ (decide_eq_false e5) ?_; refine eqQ (B5s (by intro q; simp at q; exact e4 q) (by intro q; simp at q; exact e5 q)) ?_)
     exact B2r r false n (i + 1)
theorem D4p {w:World} {D:Gd} (g:Gr w D) (f:∃ o fd,D.b0.get? 77 = some o ∧ o.data = .func fd):PrimR Pr w D 77 0 D8e:=by
 intro vs us c A d env v H _ h I rs K
 refine ⟨f,?_⟩
 refine B0a h fun v hv h=>B0a h fun gs hg h=>B0a h fun n hn h=>gdP h fun hl h=>gdP h fun h34 h=>B0a h fun sk hs h=>B0j h ?_
 replace rs:=B0c hv ▸ rs
 refine vC rs fun _ _ r1 rs=>?_
 refine vN rs ?_
 rw [B3q hg] at r1
 (obtain ⟨hok,t,e98⟩:=r1; refine eqQ e98 ?_)
 have hl:(B1o D.θ gs).length ≤ 900:=Nat.le_trans (C0z D.θ hn) (nYY hl)
 (refine C4f (C8s g I K [] (fun p hp=>(by first | exact noP hp | exact fT hp | exact nomatch hp)) List.nodup_nil) fun b L m R B=>?_)
 have q:C0h 34 (B1o D.θ gs) = true:=by rw [B2g]; exact decide_eq_true (F0v D.θ h34)
 have e2:=C5u q
 have hz:(⟨(B1o D.θ gs).toArray⟩:Str).cps.size ≤ 1000:=by simp; omega
 refine B7g (B.C.mono (by decide)) B.F B.G hz (by (refine eqR Array.length_toList ?_; refine eqQ e2 ?_); exact Nat.le_trans (B3r _ _ _) (by omega)) fun h' tk g' F' G' hg'=>?_
 have e3:B3y ⟨(B1o D.θ gs).toArray⟩ = C0p false 0 sk:=(B2r (B1v ⟨(B1o D.θ gs).toArray⟩).cps.toList false 0 0).trans ((congrArg (C0p false 0) e2).trans (B5m D.θ hs _ 0 (Nat.le_refl _)))
 (refine eqQ e3 ?_)
 exact B.back I F' G' (hg' I.gens) rfl
noncomputable def tbP:AO → Option (Nat × Nat)
 | .tab a k=>some (a,k)
 | _=>none
theorem C9l {o:AO} {p:Nat × Nat} (h:tbP o = some p):o = .tab p.1 p.2:=by
 k_extra "o" <;> first | exact congrArg (fun q:Nat × Nat=>AO.tab q.1 q.2) (oYY h) | exact noP h
noncomputable def pLex (tb : Nat) (vs : List AV) (H : St) : Option (AV × St) := do
 let v ← one? vs
 let y ← B5a v
 gd (Nat.blt 0 H.n)
 gd (Nat.ble y.length 900)
 let p ← tbP (H.get 0)
 gd (Nat.beq p.1 tb)
 gd (Nat.beq p.2 0)
 some (.ref H.n,((H.set 0 (.tab tb 2)).new (.lex y 0 [])).2)
theorem D4o {w:World} {D:Gd} (g:Gr w D) (hL:D.LX = LXm w) (HC:CodeHd D.b0 125 121) (f:∃ o fd,D.b0.get? 126 = some o ∧ o.data = .func fd):PrimR Pr w D 126 0 (pLex 121):=by
 intro vs us c A d env v H _ h I rs K
 refine ⟨f,?_⟩
 refine F1b h fun v hv y hys hn hy h=>B0a h fun p hq h=>B_gg h fun ha hk h=>B0j h ?_
 replace rs:=B0c hv ▸ rs
 replace rs:=B0e hys ▸ rs
 have q:c.H.get 0 = .tab 121 0:=(C9l hq).trans (by (refine eqQ (Nat.eq_of_beq_eq_true ha) ?_; exact eqQ (Nat.eq_of_beq_eq_true hk) rfl))
 have hn:0 < c.H.n:=nYY hn
 have hy:=nYY hy
 refine vC rs fun _ _ r1 rs=>?_
 ·refine vN rs ?_
  refine D3b r1 fun hs t=>?_
  have ro:=I.rel 0 hn
  replace ro:=q ▸ ro
  (have hmu:=ro.1; have hent:=ro.2)
  (refine C4f (C3x g I K hn) fun b L m R B=>?_)
  have G:=B.G
  rw [hent,hmu] at G
  refine B6y (B.C.mono (by decide)) (HC.keeps B.sub) B.F G .head (by simp; omega) fun h' tk z V t1 pl ps F' G' hst=>?_
  -- the new objects
  k_extra "fG"; have hN:∀ p ∈ z.news w.params (lnOf ⟨y.toArray⟩ 0) t1 [] 0 ++ pl,c.s.heap.get? p.1 = Option.none ∧ p.1 ≠ L ∧ p.1 ≠ 121:=by
   intro p hp
   k_extra "fG"; have hp':p ∈ z.news w.params (lnOf ⟨y.toArray⟩ 0) t1 [] 0 ++ (pl ++ ((121,tabObj ps) :: R)):=by
    rcases List.mem_append.mp hp with q | q
    ·exact List.mem_append_left _ q
    ·exact List.mem_append_right _ (List.mem_append_left _ q)
   (refine C5f (G'.n p hp') fun n1 n2 n3=>?_)
   have nd:=G'.nd
   rw [← List.append_assoc] at nd
   have nd:(((z.news w.params (lnOf ⟨y.toArray⟩ 0) t1 [] 0 ++ pl) ++ ((121,tabObj ps) :: R)).map (·.1)).Nodup:=nd
   rw [List.map_append,List.nodup_append] at nd
   have ap:=nd.2.2 p.1 (List.mem_map.mpr ⟨p,hp,rfl⟩)
   have n121:p.1 ≠ 121:=ap 121 (by simp)
   refine ⟨?_,n2,n121⟩
   cases q:c.s.heap.get? p.1 with
   | none=>rfl
   | some o =>
    k_extra "fG"; rcases B.cov p.1 o q n2 (fun p' hp'=>by rw [hent,List.mem_singleton] at hp'; rw [hp',hmu]; exact Ne.symm n121) with e | e
    ·rw [n3] at e; k_extra "e"
    ·exact absurd rfl (ap p.1 (by simp only [List.map_cons,List.mem_cons]; exact .inr (List.mem_map.mpr ⟨_,e,rfl⟩)))
  (refine B0o (cut h' h'.objs.size (fun a=>a ∉ (z.news w.params (lnOf ⟨y.toArray⟩ 0) t1 [] 0 ++ pl).map (·.1))) fun h1 _ hh1=>?_)
  have g1:∀ a o,(∀ p ∈ z.news w.params (lnOf ⟨y.toArray⟩ 0) t1 [] 0 ++ pl,p.1 ≠ a) → h'.get? a = some o → h1.get? a = some o:=fun a o hn e=>by
   rw [hh1,if_pos ⟨Heap.lt_size e,fun q=>by (refine B0o (List.mem_map.mp q) fun p hp z=>?_); exact hn p hp z⟩]; exact e
  have g1':∀ a o,h1.get? a = some o → h'.get? a = some o:=fun a o e=>by
   rw [hh1] at e
   split at e
   ·exact e
   ·k_extra "e"
  have live:∀ a o,c.s.heap.get? a = some o → ∀ p ∈ z.news w.params (lnOf ⟨y.toArray⟩ 0) t1 [] 0 ++ pl,p.1 ≠ a:=fun a o e p hp z=>by
   have:=(hN p hp).1
   rw [z,e] at this; (first | exact noP this | exact fT this | exact absurd this (fun e=>nomatch e))
  have nsL:h1.Ns L m:=F'.ns.at' fun o e=>g1 L o (fun p hp z=>(hN p hp).2.1 z) e
  have i121:h1.get? 121 = some (tabObj ps):=g1 121 _ (fun p hp z=>(hN p hp).2.2 z) (G'.n (121,tabObj ps) (List.mem_append_right _ (List.mem_append_right _ (.head _)))).1
  have hb:D.b0.get? L = Option.none:=by
   cases q:D.b0.get? L with
   | none=>rfl
   | some o=>exact absurd (Heap.lt_size (B.sub L o q)) (Nat.not_lt.mpr B.F.above)
  obtain ⟨I1,S1⟩:=putL (s':={ c.s with heap:=h1,toks:=tk }) (L:=L) I hn (e:=[(121,tabObj ps)]) (o:=.tab 121 2) (by (refine eqQ hent ?_; refine eqQ hmu ?_); rfl) (fun p hp=>by (refine eqQ (List.mem_singleton.mp hp) ?_); exact i121) (fun a x n1 n2 e=>by
   refine g1 a x (live a x e) ?_
   rcases B.cov a x e n2 (fun p hp q=>n1 (List.mem_map.mpr ⟨p,hp,q⟩)) with q | q
   ·exact F'.keep a x q
   ·exact (G'.n _ (List.mem_append_right _ (List.mem_append_right _ (.tail _ q)))).1) B.unt hb (fun x e=>Kp.mkN B.fr e B.F.ns nsL) ⟨hmu,ps,by (exact eqQ hmu rfl)⟩ I.gens rfl rfl
  obtain ⟨I2,S2⟩:=C4d (s':={ c.s with heap:=h',toks:=tk }) I1 (a:=z.x) (e:=z.news w.params (lnOf ⟨y.toArray⟩ 0) t1 [] 0 ++ pl) (o:=.lex y 0 []) (fun p hp=>by
   rw [hh1,if_neg (fun q=>q.2 (List.mem_map.mpr ⟨p,hp,rfl⟩))]) (by
   have nd:=G'.nd
   rw [← List.append_assoc] at nd
   have nd:(((z.news w.params (lnOf ⟨y.toArray⟩ 0) t1 [] 0 ++ pl) ++ ((121,tabObj ps) :: R)).map (·.1)).Nodup:=nd
   rw [List.map_append,List.nodup_append] at nd
   exact nd.1) (fun p hp=>by
   k_extra "fG"; rcases List.mem_append.mp hp with q | q
   ·exact (G'.n p (List.mem_append_left _ q)).1
   ·exact (G'.n p (List.mem_append_right _ (List.mem_append_left _ q))).1) (fun a o e=>g1' a o e)
   ⟨⟨hy,hs.2⟩,Nat.zero_le _,Nat.zero_le _,[],.nil,by (refine eqQ hL ?_); exact ⟨0,Nat.zero_le _,.inl rfl,z,V,t1,0,pl,rfl,rfl,hst⟩⟩ I.gens rfl rfl
  exact ⟨_,rfl,rfl,I2,S1.trans S2 I1 (fun _ q=>by k_extra "q"),Nat.lt_succ_self _,congrArg Value.ref (if_pos rfl).symm⟩
end Ab
end
section
set_option backward.match.sparseCases false
namespace Ab
noncomputable def B9l:AV → Bool
 | .ref J=>false
 | _=>true
noncomputable def clo:AO → Bool
 | .list xs=>xs.all B9l
 | .tup xs=>xs.all B9l
 | .lex J Y pb=>pb.all B9l
 | .tab J Y=>true
 | .junk=>true
 | _=>false
theorem VR.clo {θ:Nat → Int} {c c':Cfg}:∀ {v:AV} {u:Value},B9l v = true → VR θ c v u → VR θ c' v u
 | .none,J,Y,h=>h
 | .bool J,Y,V,h=>h
 | .int J,Y,V,h=>h
 | .sym J,Y,V,h=>h
 | .str J,Y,V,h=>h
 | .pc J,Y,V,h=>h
 | .ref J,Y,q,V=>by exact absurd q Bool.false_ne_true
 | .glob J,Y,V,h=>h
 | .bi J,Y,V,h=>h
 | .opq J,Y,V,h=>h
theorem VRs.clo {θ:Nat → Int} {c c':Cfg} {xs:List AV} {vs:List Value} (h:VRs θ c xs vs) (q:xs.all B9l = true):VRs θ c' xs vs:=by
 induction h with
 | nil=>exact .nil
 | cons h J ih =>
  rw [List.all_cons,Bool.and_eq_true] at q
  exact .cons (h.clo q.1) (ih q.2)
theorem OR.clo {D:Gd} {c c':Cfg} {o:AO} {a:Addr} {e:List (Addr × Obj)} (q:Ab.clo o = true) (h:OR D c o a e):OR D c' o a e:=by
 k_extra "fG"; cases o with
 | junk=>trivial
 | list=>obtain ⟨h,vs,k,e,r⟩:=h; exact ⟨h,vs,k,e,r.clo q⟩
 | tup=>obtain ⟨h,vs,k,e,r⟩:=h; exact ⟨h,vs,k,e,r.clo q⟩
 | cell=>(first | exact noP q | exact fT q | exact nomatch q)
 | tab=>exact h
 | stat=>(first | exact noP q | exact fT q | exact nomatch q)
 | lex=>obtain ⟨h1,h2,h3,vs,r,l⟩:=h; exact ⟨h1,h2,h3,vs,r.clo q,l⟩
end Ab
end
section
namespace Ab
open Mine (Cal Led Pr LexA Piece lnOf B8w B5q B7u B8i C1f C7q C1h)
noncomputable def LXe (w:World) (y0:List Nat):LexR:=fun y k vs a e=>y = [] ∧ k = 0 ∧ (y0.length ≤ 900 ∧ ∀ c ∈ y0,c < 0x110000) ∧ LXm w y0 y0.length vs a e
noncomputable def Ue (y0 y:List Nat) (k:Nat) (y':List Nat) (j:Nat):Prop:=(y = [] ∧ k = 0) ∧ (y0.length ≤ 900 ∧ ∀ c ∈ y0,c < 0x110000) ∧ y' = y0 ∧ j ≤ y0.length ∧ (y0.drop j).all ws0 = true
theorem vwE (y0:List Nat):Vw (Ue y0) where
 le:=fun ⟨_,h,e,h2,_⟩ Z=>by subst e; exact ⟨h2,h⟩
 tok:=fun ⟨⟨e1,e2⟩,_,e,_,h⟩=>by subst e1 e2 e; rw [B9c _ h]; rfl
 nxt:=fun z9 h2 hd=>by
  obtain ⟨⟨e1,e2⟩,h1,e,_,h⟩:=z9
  subst e1 e2 e
  rw [B9c _ h] at hd
  exact ⟨⟨rfl,rfl⟩,h1,rfl,h2,by rw [hd]; rfl⟩
 line:=fun ⟨⟨e1,_⟩,_⟩ h=>absurd e1 h
theorem F0y (w:World) (y0:List Nat):LXe w y0 = LXv w (Ue y0):=by
 funext y k vs a e
 refine propext ⟨?_,?_⟩
 ·rintro ⟨e1,e2,h,j,h1,h2,h3⟩
  refine ⟨y0,j,⟨⟨e1,e2⟩,h,rfl,h1,?_⟩,h3⟩
  rcases h2 with h2 | ⟨_,h2⟩
  ·refine eqQ h2 ?_; rw [List.drop_length]; rfl
  ·exact h2
 ·rintro ⟨_,j,⟨⟨e1,e2⟩,h,e,h1,h2⟩,h3⟩
  exact ⟨e1,e2,h,j,h1,.inr ⟨rfl,h2⟩,eqR e h3⟩
theorem C2w {w:World} {D:Gd} {y0:List Nat} (g:Gr w D) (hL:D.LX = LXe w y0) (f49:∃ o fd,D.b0.get? 112 = some o ∧ o.data = .func fd) (f42:∃ o fd,D.b0.get? 105 = some o ∧ o.data = .func fd):LexSpec Pr w D 112 105:=C2v (vwE y0) g (hL.trans (F0y w y0)) f49 f42
end Ab
end
section
namespace Ab
open Mine (Pr)
noncomputable def dfn:Arguments × List Stmt × Scope:=(⟨[],[],none,[],[],none,[]⟩,[],{ kind:=.function,names:=[],isGenerator:=false,isCoroutine:=false })
noncomputable def fnD (nm:String):Arguments × List Stmt × Scope:=(PySem.Challenge.pw_wf0058_02.main.body.findSome? fun s=>(DefRec.ofStmt? s).bind fun d=>if d.name == (nm:Str) then some (d.params,d.body,d.scope) else none).getD dfn
noncomputable def g1:G:=[("len",.bi .len),("sum",.bi .sum),("int",.bi .int),("range",.bi .range),("enumerate",.bi .enumerate),("list",.bi .list),
("_check_parenthesis",.glob 77),("_law_lexer",.glob 126),("_law_names",.glob 131),("_law_text",.glob 138),("_law_row",.glob 145),("_law_ways",.glob 152),("_law_coupled",.glob 157),("_law_table",.glob 162),("_law_back",.glob 169),("_law_taken",.glob 174),("int_divmod",.glob 56)].map fun (a,b)=>(Str.ofString a,b)
noncomputable def gOkB (P:Params) (p:Str × AV):Bool:=match p.2 with
 | .glob a=>nsIn (hd2.heap_39 P) mainGlobals p.1 == some (some (.ref a))
 | .bi b=>nsIn (hd2.heap_39 P) mainGlobals p.1 == some none && bootBuiltins p.1 == some b.val && p.1 != "__name__"
 | _=>false
theorem g1_ok (P:Params):g1.all (gOkB P) = true:=by rfl
theorem B6v {x:Str} {v:AV}:∀ {g:G},g.lookup x = some v → (x,v) ∈ g
 | [],h=>by k_extra "h"
 | (y,u) :: g,h=>by
  rw [List.lookup_cons] at h
  cases q:x == y with
  | true=>rw [q] at h; refine B0g h ?_; rw [eq_of_beq q]; exact .head _
  | false=>rw [q] at h; exact .tail _ (B6v h)
theorem C4v {w:World} {D:Gd} (g:Gr w D):GlobOk Pr w D g1:=by
 intro x v hx
 have hm:=List.all_eq_true.mp (g1_ok w.params) _ (B6v hx)
 (refine C4f g.top fun lo mean mg mb T=>?_)
 have TR:=topRead_of T
 unfold gOkB at hm
 dsimp only at hm
 split at hm
 ·revert hm; revert hx; rename _=>a; intro hx hm
  have e:nsIn (hd2.heap_39 w.params) mainGlobals x = some (some (.ref a)):=by simpa using hm
  exact ⟨.ref a,rfl,fun {A E s env Q} hb hg hbl h=>loadGlobal_global (by (refine eqQ hg ?_); exact TR.g.keeps hb) (mg_of g.X TR.g e) h⟩
 ·revert hm; revert hx; rename _=>b; intro hx hm
  k_extra "fG"; simp only [Bool.and_eq_true,bne_iff_ne,ne_eq] at hm
  obtain ⟨⟨h1,h2⟩,h3⟩:=hm
  have e1:nsIn (hd2.heap_39 w.params) mainGlobals x = some none:=by simpa using h1
  have e2:bootBuiltins x = some b.val:=by simpa using h2
  exact ⟨b.val,rfl,fun {A E s env Q} hb hg hbl h=>loadGlobal_builtin (by (refine eqQ hg ?_); exact TR.g.keeps hb) (mg_none_of g.X TR.g e1) (by (refine eqQ hbl ?_); exact TR.b.keeps hb) ((TR.builtins x h3).trans e2) h⟩
 ·exact absurd hm Bool.false_ne_true
noncomputable def dFc:FnC:=⟨0,0,0,[],[]⟩
noncomputable def fc (nm:String):FnC:=(cFn g1 (fnD nm).1 (fnD nm).2.1 (fnD nm).2.2).getD dFc
structure FdAt (w:World) (D:Gd) (a:Addr) (nm:String) (fd:FuncData):Prop where
 at':∃ o,D.b0.get? a = some o ∧ o.data = .func fd
 body:fd.body = .stmts (fnD nm).2.1
 scope:fd.scope = (fnD nm).2.2
 clo:fd.closure = []
 glb:fd.globals = mainGlobals
 blt:fd.builtins = builtinsNs
 code:D.b0.CodeRec fd.code fd.qualname
 co:(fnD nm).2.2.isCoroutine = false
 gen:(fnD nm).2.2.isGenerator = false
 kind:(fnD nm).2.2.kind = .function
 bind:∀ vals:List Value,vals.length = (fnD nm).1.args.length → bindArgs fd ⟨vals,[]⟩ = pure (((fnD nm).1.args.map (·.arg)).zip vals)
theorem B2p {w:World} {D:Gd} (g:Gr w D) {a:Addr} {nm:String} {fd:FuncData} (F:FdAt w D a nm fd) (hc:(cFn g1 (fnD nm).1 (fnD nm).2.1 (fnD nm).2.2).isSome = true):DefR D g1 a (fc nm):=by
 k_extra "fG"; (refine B0o F.at' fun o ho hd=>?_)
 k_extra "fG"; (refine C4f g.top fun lo mean mg mb T=>?_)
 refine ⟨o,fd,(fnD nm).1,(fnD nm).2.1,ho,hd,F.body,?_,F.bind,F.clo,F.glb,F.blt,T.nolimit,F.code,by (refine eqQ F.scope ?_); exact F.co,by (refine eqQ F.scope ?_); exact F.gen,by (refine eqQ F.scope ?_); exact F.kind⟩
 (refine eqQ F.scope ?_)
 unfold fc
 cases q:cFn g1 (fnD nm).1 (fnD nm).2.1 (fnD nm).2.2 with
 | none=>replace hc:=q ▸ hc; exact absurd hc Bool.false_ne_true
 | some f=>rfl
theorem F0r {α:Type} {P:List α → Prop} (h:∀ a,P [a]):∀ l:List α,l.length = 1 → P l
 | [a],J=>h a
theorem C8v {α:Type} {P:List α → Prop} (h:∀ a b,P [a,b]):∀ l:List α,l.length = 2 → P l
 | [],e=>nomatch e
 | a :: l,e=>by rcases l with _ | ⟨b,_ | ⟨c,l⟩⟩ <;> first | exact h a b | exact nomatch e
theorem F0q {α:Type} {P:List α → Prop} (h:∀ a b c,P [a,b,c]):∀ l:List α,l.length = 3 → P l
 | [],e=>nomatch e
 | a :: l,e=>C8v (P:=fun l=>P (a :: l)) (h a) l (Nat.succ.inj e)
theorem bind4 {α:Type} {P:List α → Prop} (h:∀ a b c d,P [a,b,c,d]):∀ l:List α,l.length = 4 → P l
 | [],e=>nomatch e
 | a :: l,e=>F0q (P:=fun l=>P (a :: l)) (h a) l (Nat.succ.inj e)
theorem bind5 {α:Type} {P:List α → Prop} (h:∀ a b c d e,P [a,b,c,d,e]):∀ l:List α,l.length = 5 → P l
 | [],e=>nomatch e
 | a :: l,e=>bind4 (P:=fun l=>P (a :: l)) (h a) l (Nat.succ.inj e)
theorem fd131 {w:World} {D:Gd} (g:Gr w D):∃ fd,FdAt w D 131 "_law_names" fd :=
 ⟨_,⟨_,g.X _ _ (by k_is),rfl⟩,rfl,rfl,rfl,rfl,rfl,codeRec_of g.X rfl,rfl,rfl,rfl,C8v (by intros; rfl)⟩
theorem df131 {w:World} {D:Gd} (g:Gr w D):DefR D g1 131 (fc "_law_names"):=let ⟨_,F⟩:=fd131 g; B2p g F (by decide +kernel)
theorem fd138 {w:World} {D:Gd} (g:Gr w D):∃ fd,FdAt w D 138 "_law_text" fd :=
 ⟨_,⟨_,g.X _ _ (by k_is),rfl⟩,rfl,rfl,rfl,rfl,rfl,codeRec_of g.X rfl,rfl,rfl,rfl,C8v (by intros; rfl)⟩
theorem df138 {w:World} {D:Gd} (g:Gr w D):DefR D g1 138 (fc "_law_text"):=let ⟨_,F⟩:=fd138 g; B2p g F (by decide +kernel)
theorem fd145 {w:World} {D:Gd} (g:Gr w D):∃ fd,FdAt w D 145 "_law_row" fd :=
 ⟨_,⟨_,g.X _ _ (by k_is),rfl⟩,rfl,rfl,rfl,rfl,rfl,codeRec_of g.X rfl,rfl,rfl,rfl,C8v (by intros; rfl)⟩
theorem df145 {w:World} {D:Gd} (g:Gr w D):DefR D g1 145 (fc "_law_row"):=let ⟨_,F⟩:=fd145 g; B2p g F (by decide +kernel)
theorem fd152 {w:World} {D:Gd} (g:Gr w D):∃ fd,FdAt w D 152 "_law_ways" fd :=
 ⟨_,⟨_,g.X _ _ (by k_is),rfl⟩,rfl,rfl,rfl,rfl,rfl,codeRec_of g.X rfl,rfl,rfl,rfl,F0r (by intros; rfl)⟩
theorem df152 {w:World} {D:Gd} (g:Gr w D):DefR D g1 152 (fc "_law_ways"):=let ⟨_,F⟩:=fd152 g; B2p g F (by decide +kernel)
theorem fd157 {w:World} {D:Gd} (g:Gr w D):∃ fd,FdAt w D 157 "_law_coupled" fd :=
 ⟨_,⟨_,g.X _ _ (by k_is),rfl⟩,rfl,rfl,rfl,rfl,rfl,codeRec_of g.X rfl,rfl,rfl,rfl,bind5 (by intros; rfl)⟩
theorem df157 {w:World} {D:Gd} (g:Gr w D):DefR D g1 157 (fc "_law_coupled"):=let ⟨_,F⟩:=fd157 g; B2p g F (by decide +kernel)
theorem fd162 {w:World} {D:Gd} (g:Gr w D):∃ fd,FdAt w D 162 "_law_table" fd :=
 ⟨_,⟨_,g.X _ _ (by k_is),rfl⟩,rfl,rfl,rfl,rfl,rfl,codeRec_of g.X rfl,rfl,rfl,rfl,F0r (by intros; rfl)⟩
theorem df162 {w:World} {D:Gd} (g:Gr w D):DefR D g1 162 (fc "_law_table"):=let ⟨_,F⟩:=fd162 g; B2p g F (by decide +kernel)
theorem fd169 {w:World} {D:Gd} (g:Gr w D):∃ fd,FdAt w D 169 "_law_back" fd :=
 ⟨_,⟨_,g.X _ _ (by k_is),rfl⟩,rfl,rfl,rfl,rfl,rfl,codeRec_of g.X rfl,rfl,rfl,rfl,C8v (by intros; rfl)⟩
theorem df169 {w:World} {D:Gd} (g:Gr w D):DefR D g1 169 (fc "_law_back"):=let ⟨_,F⟩:=fd169 g; B2p g F (by decide +kernel)
theorem fd174 {w:World} {D:Gd} (g:Gr w D):∃ fd,FdAt w D 174 "_law_taken" fd :=
 ⟨_,⟨_,g.X _ _ (by k_is),rfl⟩,rfl,rfl,rfl,rfl,rfl,codeRec_of g.X rfl,rfl,rfl,rfl,F0q (by intros; rfl)⟩
theorem df174 {w:World} {D:Gd} (g:Gr w D):DefR D g1 174 (fc "_law_taken"):=let ⟨_,F⟩:=fd174 g; B2p g F (by decide +kernel)
end Ab
end
section
set_option maxRecDepth 1000000
namespace Ab
noncomputable def D9r:FnC:=⟨2,1,2,[(.cel 0),(.loc 0)],[(.asg (.cel 1) (.lit (.str [40,41,34,92,32,10,35,97]))),(.ret (.comp (.sub (.bin .add (.cel 1) (.cel 1)) (.bin .add (.bin .fmod (.cel 0) (.lit (.int 8))) (.loc 1))) (.one (.loc 1)) 2 (.loc 0) [] 2 [(some 0),(some 1)]))]⟩
noncomputable def D9q:FnC:=⟨2,5,0,[(.loc 0),(.loc 1)],[(.asg (.loc 2) (.lit (.str []))),(.fr (.two (.loc 3) (.loc 4)) 1 (.loc 0) [(.iff (.bin .fmod (.bin .fdiv (.loc 1) (.bin .pow (.lit (.int 2)) (.loc 3))) (.lit (.int 2))) [(.aug (.loc 2) .add (.bin .add (.bin .add (.lit (.str [34])) (.esc 4 (.cmp .in_ (.loc 4) (.lit (.str [34,92]))) (.bin .add (.lit (.str [92])) (.loc 4)) (.loc 4))) (.lit (.str [34,32]))))] [(.aug (.loc 2) .add (.bin .add (.bin .add (.lit (.str [92])) (.loc 4)) (.lit (.str [32]))))])]),(.ret (.loc 2))]⟩
noncomputable def D9p:FnC:=⟨2,5,0,[(.loc 0),(.loc 1)],[(.unp [(0,(.loc 2)),(1,(.loc 3))] (.tup [(.lit (.str [])),(.lit (.int 0))])),(.fr (.one (.loc 4)) 2 (.bin .mul (.lit (.int 2)) (.loc 0)) [(.iff (.and [(.cmp .lt (.loc 3) (.loc 0)),(.or [(.cmp .eq (.bin .mul (.lit (.int 2)) (.loc 3)) (.loc 4)),(.cmp .eq (.bin .fmod (.bin .fdiv (.loc 1) (.bin .pow (.lit (.int 2)) (.loc 4))) (.lit (.int 2))) (.lit (.int 0)))])]) [(.unp [(1,(.loc 3)),(0,(.loc 2))] (.tup [(.bin .add (.loc 2) (.lit (.str [40]))),(.bin .add (.loc 3) (.lit (.int 1)))]))] [(.aug (.loc 2) .add (.lit (.str [41])))])]),(.ret (.loc 2))]⟩
noncomputable def D9o:FnC:=⟨1,4,0,[(.loc 0)],[(.unp [(0,(.loc 1)),(1,(.loc 2))] (.tup [(.lit (.int 1)),(.lit (.int 0))])),(.fr (.one (.loc 3)) 0 (.loc 0) [(.iff (.cmp .eq (.loc 3) (.lit (.str [40]))) [(.aug (.loc 2) .add (.lit (.int 1)))] [(.aug (.loc 1) .mul (.loc 2)),(.aug (.loc 2) .sub (.lit (.int 1)))])]),(.ret (.loc 1))]⟩
noncomputable def D9n:FnC:=⟨5,13,0,[(.loc 0),(.loc 1),(.loc 2),(.loc 3),(.loc 4)],[(.asg (.loc 7) (.comp (.loc 1) (.two (.loc 1) (.loc 2)) 1 (.loc 1) [(.cmp .eq (.loc 2) (.lit (.str [40])))] 3 [])),(.unp [(2,(.loc 10)),(1,(.loc 9)),(0,(.loc 8))] (.tup [(.lst []),(.lit (.int 0)),(.lit (.int 0))])),(.fr (.two (.loc 5) (.loc 6)) 1 (.loc 1) [(.iff (.cmp .eq (.loc 6) (.lit (.str [40]))) [(.expr (.meth (.loc 0) .push [(.sub (.loc 2) (.loc 9))])),(.aug (.loc 9) .add (.lit (.int 1))),(.aug (.loc 10) .add (.lit (.int 1)))] [(.asg (.loc 11) (.lit (.int 0))),(.iff (.cmp .gt (.loc 10) (.lit (.int 1))) [(.unp [(0,(.loc 3)),(1,(.loc 11))] (.call (.glob 56) [(.bin .mul (.loc 3) (.loc 4)),(.bin .mul (.loc 10) (.loc 4))])),(.aug (.loc 11) .mul (.loc 4))] []),(.fr (.one (.loc 12)) 2 (.loc 11) [(.expr (.meth (.loc 0) .push [(.meth (.loc 0) .tok [])]))]),(.expr (.meth (.loc 8) .append [(.tup [(.sub (.loc 7) (.meth (.loc 2) .index [(.meth (.loc 0) .tok [])])),(.loc 5)])])),(.aug (.loc 10) .sub (.lit (.int 1))),(.fr (.one (.loc 12)) 2 (.bin .sub (.loc 10) (.loc 11)) [(.expr (.meth (.loc 0) .push [(.meth (.loc 0) .tok [])]))])])]),(.ret (.tup [(.loc 8),(.loc 3)]))]⟩
noncomputable def D9m:FnC:=⟨1,4,2,[(.loc 0)],[(.asg (.loc 1) (.lst [])),(.fr (.two (.cel 0) (.cel 1)) 0 (.loc 0) [(.asg (.loc 2) (.call (.bi .len) [(.comp (.lit (.int 1)) (.two (.loc 1) (.loc 2)) 0 (.loc 0) [(.and [(.cmp .lt (.loc 1) (.cel 1)),(.cmp .lt (.cel 0) (.loc 2))])] 3 [(some 1),(some 0)])])),(.asg (.loc 3) (.call (.bi .len) [(.comp (.lit (.int 1)) (.two (.loc 1) (.loc 2)) 0 (.loc 0) [(.chn (.cel 1) .lt (.loc 1) [(.lt,(.cel 0)),(.lt,(.loc 2))])] 3 [(some 1),(some 0)])])),(.expr (.meth (.loc 1) .append [(.tup [(.loc 2),(.loc 3)])]))]),(.ret (.loc 1))]⟩
noncomputable def D9l:FnC:=⟨2,4,0,[(.loc 0),(.loc 1)],[(.fr (.two (.loc 2) (.loc 3)) 0 (.slc (.loc 0) none none (some (.neg (.lit (.int 1))))) [(.asg (.loc 1) (.bin .add (.bin .mul (.loc 1) (.bin .add (.bin .add (.loc 2) (.loc 3)) (.lit (.int 1)))) (.loc 2)))]),(.ret (.loc 1))]⟩
noncomputable def D9k:FnC:=⟨3,8,0,[(.loc 0),(.loc 1),(.loc 2)],[(.asg (.loc 3) (.comp (.loc 1) (.two (.loc 1) (.loc 2)) 1 (.loc 0) [(.cmp .eq (.loc 2) (.lit (.str [40])))] 3 [])),(.asg (.loc 4) (.call (.bi .list) [(.loc 0)])),(.fr (.two (.loc 5) (.loc 6)) 0 (.loc 1) [(.asg (.loc 7) (.sub (.loc 2) (.meth (.loc 3) .index [(.loc 5)]))),(.augs 4 5 .add (.bin .add (.bin .add (.lit (.str [34])) (.esc 7 (.cmp .in_ (.loc 7) (.lit (.str [34,92]))) (.bin .add (.lit (.str [92])) (.loc 7)) (.loc 7))) (.lit (.str [34])))),(.augs 4 6 .add (.bin .add (.lit (.str [92])) (.loc 7)))]),(.fr (.two (.loc 5) (.loc 6)) 0 (.loc 1) [(.iff (.cmp .isn (.call (.glob 77) [(.meth (.lit (.str [])) .join [(.slc (.loc 4) (some (.loc 5)) (some (.bin .add (.loc 6) (.lit (.int 1)))) none)])]) (.lit (.bool true))) [(.ret (.lit (.bool false)))] [])]),(.ret (.lit (.bool true)))]⟩
noncomputable def fl179:FnC:=⟨1,18,2,[(.loc 0)],[(.asg (.cel 0) (.comp (.bin .fmod (.call (.bi .int) [(.loc 1)]) (.bin .pow (.lit (.int 10)) (.lit (.int 6)))) (.one (.loc 1)) 0 (.slc (.loc 0) none (some (.lit (.int 12))) none) [] 2 [])),(.asg (.loc 1) (.comp (.bin .add (.call (.bi .sum) [(.slc (.cel 0) (some (.loc 1)) none (some (.lit (.int 4))))]) (.loc 2)) (.two (.loc 1) (.loc 2)) 1 (.tup [(.lit (.int 187)),(.lit (.int 4)),(.lit (.int 21)),(.lit (.int 1))]) [] 3 [(some 0)])),(.unp [(1,(.loc 3)),(0,(.loc 2))] (.tup [(.bin .sub (.bin .fmod (.sub (.loc 1) (.lit (.int 0))) (.lit (.int 361))) (.lit (.int 180))),(.bin .add (.lit (.int 3)) (.bin .fmod (.sub (.loc 1) (.lit (.int 3))) (.lit (.int 3))))])),(.asg (.loc 4) (.call (.glob 145) [(.loc 3),(.sub (.loc 1) (.lit (.int 1)))])),(.asg (.loc 5) (.call (.glob 131) [(.sub (.loc 1) (.lit (.int 2))),(.loc 3)])),(.asg (.loc 6) (.call (.glob 138) [(.loc 5),(.bin .fdiv (.sub (.loc 1) (.lit (.int 2))) (.lit (.int 8)))])),(.asg (.cel 1) (.call (.glob 126) [(.loc 6)])),(.asg (.loc 7) (.comp (.meth (.cel 0) .tok []) (.one (.loc 1)) 0 (.loc 5) [] 2 [(some 1)])),(.iff (.cmp .ne (.tup [(.loc 7),(.line (.cel 1))]) (.tup [(.loc 5),(.bin .add (.lit (.int 1)) (.meth (.loc 6) .count [(.lit (.str [10]))]))])) [(.ret (.lit (.bool false)))] []),(.asg (.loc 8) (.call (.glob 152) [(.loc 4)])),(.asg (.loc 9) (.bin .sub (.loc 2) (.bin .fmod (.loc 2) (.loc 8)))),(.asg (.loc 10) (.lst [])),(.fr (.two (.loc 11) (.loc 12)) 0 (.tup [(.tup [(.loc 2),(.lit (.int 1))]),(.tup [(.bin .sub (.neg (.lit (.int 1))) (.loc 2)),(.lit (.int 1))]),(.tup [(.loc 9),(.neg (.lit (.int 1)))]),(.tup [(.bin .sub (.neg (.lit (.int 1))) (.loc 9)),(.neg (.lit (.int 1)))])]) [(.unp [(0,(.loc 13)),(1,(.loc 14))] (.call (.glob 157) [(.cel 1),(.loc 4),(.loc 7),(.loc 11),(.loc 12)])),(.asg (.loc 15) (.call (.glob 162) [(.loc 13)])),(.iff (.cmp .ne (.tup [(.loc 14),(.call (.glob 169) [(.loc 15),(.loc 14)])]) (.tup [(.bin .fdiv (.loc 11) (.loc 8)),(.loc 11)])) [(.ret (.lit (.bool false)))] []),(.asg (.loc 16) (.call (.bi .sum) [(.comp (.loc 1) (.two (.loc 1) (.loc 2)) 0 (.loc 15) [] 3 [])])),(.asg (.loc 17) (.call (.bi .sum) [(.comp (.loc 2) (.two (.loc 1) (.loc 2)) 0 (.loc 15) [] 3 [])])),(.iff (.cmp .ne (.tup [(.cmp .eq (.loc 16) (.lit (.int 0))),(.cmp .eq (.loc 17) (.lit (.int 0)))]) (.tup [(.cmp .eq (.bin .fmod (.loc 11) (.loc 8)) (.lit (.int 0))),(.cmp .eq (.bin .fmod (.bin .add (.loc 11) (.lit (.int 1))) (.loc 8)) (.lit (.int 0)))])) [(.ret (.lit (.bool false)))] []),(.iff (.cmp .ne (.call (.glob 174) [(.loc 4),(.loc 13),(.loc 7)]) (.cmp .eq (.loc 17) (.lit (.int 0)))) [(.ret (.lit (.bool false)))] []),(.expr (.meth (.loc 10) .append [(.comp (.tup [(.loc 2),(.loc 1)]) (.two (.loc 1) (.loc 2)) 0 (.loc 15) [] 3 [])])),(.expr (.meth (.loc 10) .append [(.loc 15)]))]),(.iff (.cmp .ne (.tup [(.sub (.loc 10) (.lit (.int 0))),(.sub (.loc 10) (.lit (.int 4)))]) (.tup [(.sub (.loc 10) (.lit (.int 3))),(.sub (.loc 10) (.lit (.int 7)))])) [(.ret (.lit (.bool false)))] []),(.ret (.cmp .eq (.tup [(.meth (.cel 1) .tok []),(.line (.cel 1))]) (.tup [(.lit (.str [])),(.bin .add (.lit (.int 1)) (.meth (.loc 6) .count [(.lit (.str [10]))]))])))]⟩
theorem D9j:fc "_law_names" = D9r:=by rfl
theorem D9i:fc "_law_text" = D9q:=by rfl
theorem D9h:fc "_law_row" = D9p:=by rfl
theorem D9g:fc "_law_ways" = D9o:=by rfl
theorem D9f:fc "_law_coupled" = D9n:=by rfl
theorem D9e:fc "_law_table" = D9m:=by rfl
theorem D9d:fc "_law_back" = D9l:=by rfl
theorem D9c:fc "_law_taken" = D9k:=by rfl
end Ab
end
section
set_option backward.match.sparseCases false
namespace Ab
theorem AOk.le {D:Gd} {A:Around} {d d':Nat} {c:Cfg} {env:Env} (h:AOk D A d c env) (hd:d' ≤ d):AOk D A d' c env:=by
 obtain ⟨fenv,outer,L,dp,gd,un,e1,e2,e3,e4,e5,e6,e7,e8,e9,e10,e11,e12,e13,e14⟩:=h
 exact ⟨fenv,outer,L,dp,gd,un,e1,e2,e3,om510 hd e4,om511 hd e5,e6,e7,e8,e9,e10,e11,e12,e13,e14⟩
theorem AOk.tr {D D':Gd} (hb:D'.b0 = D.b0) {A:Around} {d:Nat} {c c':Cfg} {env:Env} (h:AOk D A d c env) (hs:c'.s = c.s) (hf:c'.fr = c.fr) (ht:∀ a,Trk c' a → Trk c a):AOk D' A d c' env:=by
 obtain ⟨fenv,outer,L,dp,gd,un,e1,e2,e3,e4,e5,e6,e7,e8,e9,e10,e11,e12,e13,e14⟩:=h
 exact ⟨fenv,outer,L,dp,gd,un,e1,e2,e3,e4,e5,hs.symm ▸ e6,fun z=>e7 (ht _ z),hb.symm ▸ e8,hs.symm ▸ hb.symm ▸ e9,fun e he L' q=>⟨fun z=>(e10 e he L' q).1 (ht _ z),(e10 e he L' q).2⟩,e11,hf.symm ▸ e12,fun e he L' q=>hf.symm ▸ e13 e he L' q,fun a q=>⟨fun z=>(e14 a (hf ▸ q)).1 (ht _ z),hs.symm ▸ (e14 a (hf ▸ q)).2⟩⟩
theorem AOk.unt {D:Gd} {A:Around} {d:Nat} {c:Cfg} {env:Env} (h:AOk D A d c env):∀ a,c.fr a → ¬ Trk c a:=by
 obtain ⟨fenv,outer,L,dp,gd,un,e1,e2,e3,e4,e5,e6,e7,e8,e9,e10,e11,e12,e13,e14⟩:=h
 exact fun a q=>(e14 a q).1
section
variable {M:Model} {A:Around} {E:Value → Shared → Prop} {s:Shared} {env:Env}
theorem B9y (ys:List Stmt) (env:Env):∀ xs:List Stmt,execs (xs ++ ys) env = (execs xs env >>= fun f=>match f with | .next=>execs ys env | f=>pure f)
 | []=>by
  show execs ys env = (pure Flow.next >>= _)
  rw [pure_bind]
 | x :: xs=>by
  simp only [List.cons_append,execs_cons,execs_cons,bind_assoc]
  congr 1
  funext f
  cases f with
  | next=>exact B9y ys env xs
  | _=>exact (pure_bind _ _).symm
theorem B1s {xs ys:List Stmt} {Q:Flow → Shared → Prop} (h:wpAny M A (execs xs env) (fun f s'=>match f with | .next=>wpAny M A (execs ys env) Q E s' | f=>Q f s') E s):wpAny M A (execs (xs ++ ys) env) Q E s:=by
 rw [B9y]
 refine wpAny_bind (wpAny_mono h (fun f s' hf=>?_) Mine.idE)
 cases f with
 | next=>exact hf
 | _=>exact wpAny_pure hf
end
noncomputable def mkSa:St → List AO → St
 | H,[]=>H
 | H,o :: r=>mkSa (H.new o).2 r
noncomputable def mkS (l:List AO):St:=mkSa (St.mk 0 .nil) l
noncomputable def D7n (a:Nat):AO → Bool
 | .tab b J=>Nat.beq b a
 | J=>false
theorem D3v {a:Nat} {v:AO} (h:D7n a v = true):∃ k,v = .tab a k:=by
 cases v with
 | tab b k =>
  have e:b = a:=Nat.eq_of_beq_eq_true h
  exact ⟨k,by (exact eqQ e rfl)⟩
 | _=>exact fT h
noncomputable def D2f:Option (Flo × Fm × St) → Option (Fm × St)
 | none=>none
 | some p=>match p.1 with
  | .nxt=>some p.2
  | .ret J=>none
theorem B1t {o:Option (Flo × Fm × St)} {p:Fm × St} (h:D2f o = some p):o = some (.nxt,p.1,p.2):=by
 cases o with
 | none=>exact noP h
 | some q =>
  obtain ⟨fl,q⟩:=q
  cases fl with
  | nxt=>exact oYY h ▸ rfl
  | ret v=>exact noP h
noncomputable def retO:Option (Flo × Fm × St) → Option (Bool × Fm × St)
 | none=>none
 | some p=>match p.1 with
  | .nxt=>none
  | .ret v=>match v with
   | .bool b=>some (b,p.2)
   | _=>none
theorem C6a {o:Option (Flo × Fm × St)} {p:Bool × Fm × St} (h:retO o = some p):o = some (.ret (.bool p.1),p.2.1,p.2.2):=by
 cases o with
 | none=>exact noP h
 | some q =>
  obtain ⟨fl,q⟩:=q
  cases fl with
  | nxt=>exact noP h
  | ret v =>
   cases v with
   | bool b=>exact oYY h ▸ rfl
   | _=>exact noP h
noncomputable def isCel:AO → Bool
 | .cell J=>true
 | _=>false
noncomputable def okO (o:Option Unit):Bool:=match o with | some J=>true | Option.none=>false
theorem C9y {o:Option Unit} (h:okO o = true):o = some ():=by
 cases o with
 | none=>exact absurd h Bool.false_ne_true
 | some u=>rfl
theorem C9f {f:Fm} {i:Nat} {v v':AV} (h:B4t f i = some v) (e:v = v'):nth? f.loc i = some (some v'):=e ▸ B1h h
theorem C6r:∀ (l:List AO) (H:St),(mkSa H l).n = H.n + l.length
 | [],J=>rfl
 | o :: r,H=>by
  dsimp only [mkSa]; simp only [C6r r,List.length_cons]
  show H.n + 1 + r.length = _
  exact om37
theorem B5f:∀ (l:List AO) (H:St) (i:Nat),(mkSa H l).get i = if i < H.n then H.get i else match l[i - H.n]? with | some o=>o | Option.none=>H.get i
 | [],H,i=>by
  dsimp only [mkSa]
  by_cases h:i < H.n <;> simp [h]
 | o :: r,H,i=>by
  dsimp only [mkSa]; rw [B5f r]
  show (if i < H.n + 1 then (H.new o).2.get i else match r[i - (H.n + 1)]? with | some o=>o | Option.none=>(H.new o).2.get i) = _
  rw [St.get_new]
  by_cases h:i < H.n
  ·(refine eqQ (if_pos (by exact om556 h)) ?_; refine eqQ (if_neg (by exact om557 h)) ?_; exact eqQ (if_pos h) rfl)
  ·(refine eqQ (if_neg h) ?_)
   by_cases q:i = H.n
   ·refine eqR q ?_
    (refine eqQ (if_pos (by exact om7)) ?_; refine eqQ (if_pos rfl) ?_)
    simp
   ·(refine eqQ (if_neg (by exact om558 h q)) ?_; refine eqQ (if_neg q) ?_)
    obtain ⟨k,rfl⟩:∃ k,i = H.n + 1 + k:=⟨i - (H.n + 1),by exact om559 h q⟩
    (refine eqQ (show H.n + 1 + k - (H.n + 1) = k by exact om560) ?_; refine eqQ (show H.n + 1 + k - H.n = k + 1 by exact om561) ?_; exact eqQ (List.getElem?_cons_succ) rfl)
theorem C4o (l:List AO):(mkS l).n = l.length:=by simp only [mkS,C6r]; exact Nat.zero_add _
theorem C6s {l:List AO} {i:Nat} {o:AO} (h:l[i]? = some o):(mkS l).get i = o:=by
 simp only [mkS,B5f,if_neg (Nat.not_lt_zero _),Nat.sub_zero,h]
noncomputable abbrev Cfg.rc (c:Cfg) (wh:List Nat) (os:List AO):Cfg:=⟨fun j=>c.mu (wh.getD j 0),fun j=>c.ent (wh.getD j 0),mkS os,c.s,c.fr⟩
theorem B2t {l:List Nat} {j:Nat} (h:j < l.length):l.getD j 0 ∈ l:=by
 (refine eqQ (List.getD_eq_getElem?_getD) ?_; refine eqQ (List.getElem?_eq_getElem h) ?_)
 exact List.getElem_mem h
theorem C3e {l:List Nat} (n:l.Nodup) {i j:Nat} (hi:i < l.length) (hj:j < l.length) (e:l.getD i 0 = l.getD j 0):i = j:=by
 rw [List.getD_eq_getElem?_getD,List.getElem?_eq_getElem hi,List.getD_eq_getElem?_getD,List.getElem?_eq_getElem hj] at e
 exact (List.getElem_inj n).mp e
section
variable {D D':Gd} {c:Cfg} {wh:List Nat} {os:List AO}
theorem C6c (hl:wh.length = os.length) (lt:∀ i ∈ wh,i < c.H.n) {a:Addr} (h:Trk (c.rc wh os) a):Trk c a:=by
 k_extra "fG"; obtain ⟨j,hj,p,hp,e⟩:=h
 have hj:j < (mkS os).n:=hj
 rw [C4o,← hl] at hj
 exact ⟨wh.getD j 0,lt _ (B2t hj),p,hp,e⟩
theorem D1z (I:Inv D c) (hb:D'.b0 = D.b0) (hl:wh.length = os.length) (nd:wh.Nodup) (lt:∀ i ∈ wh,i < c.H.n)
  (rel:∀ j o,os[j]? = some o → OR D' (c.rc wh os) o (c.mu (wh.getD j 0)) (c.ent (wh.getD j 0))):Inv D' (c.rc wh os):=by
 have le:∀ {j},j < (c.rc wh os).H.n → j < wh.length:=fun {j} h=>by
  rw [C4o] at h; exact om562 hl h
 have li:∀ {j},j < (c.rc wh os).H.n → wh.getD j 0 < c.H.n:=fun h=>lt _ (B2t (le h))
 refine ⟨fun j hj=>?_,fun j hj=>I.hold _ (li hj),fun i j hi hj ne=>I.dis _ _ (li hi) (li hj) fun e=>ne (C3e nd (le hi) (le hj) e),fun j hj=>I.nd _ (li hj),fun j hj p hp=>by (refine eqQ hb ?_); exact I.new _ (li hj) p hp,fun a o e=>I.stat a o (hb ▸ e),I.gens⟩
 have hj':=le hj
 replace hj':=hl ▸ hj'
 have e:=List.getElem?_eq_getElem hj'
 (refine eqQ (C6s e) ?_)
 exact rel j _ e
theorem D8b {env:Env} {ly:Ly} {f f0:Fm} (F:FR D c env ly f) (hb:D'.b0 = D.b0) (hl:wh.length = os.length) (lt:∀ i ∈ wh,i < c.H.n)
  (loc:∀ i v,nth? f0.loc i = some (some v) → ∃ v',nth? f.loc i = some (some v') ∧ ∀ u,VR D.θ c v' u → VR D'.θ (c.rc wh os) v u)
  (cel:∀ j k,nth? f0.cel j = some k → k < os.length ∧ nth? f.cel j = some (wh.getD k 0)):FR D' (c.rc wh os) env ly f0 where
 kind:=F.kind
 names:=F.names
 glb:=F.glb
 blt:=F.blt
 ns:=by
  (refine B0o F.ns fun m hm h=>?_)
  refine ⟨m,hm,fun i x v a b=>?_⟩
  (refine B0o (loc i v b) fun v' h1 h2=>?_)
  (refine B0o (h i x v' a h1) fun u h3 h4=>?_)
  exact ⟨u,h3,h2 u h4⟩
 unt:=fun z=>F.unt (C6c hl lt z)
 cel:=fun x j k a b=>by
  (have h1:=(cel j k b).1; have h2:=(cel j k b).2)
  obtain ⟨h3,h4⟩:=F.cel x j _ a h2
  exact ⟨by show k < (mkS os).n; rw [C4o]; exact h1,h4⟩
 above:=by (refine eqQ hb ?_); exact F.above
theorem D2a {A:Around} {d:Nat} {env:Env} (K:AOk D A d c env) (hb:D'.b0 = D.b0) (hl:wh.length = os.length) (lt:∀ i ∈ wh,i < c.H.n):AOk D' A d (c.rc wh os) env:=AOk.tr hb K rfl rfl fun a=>C6c hl lt
theorem B1x {c':Cfg} {o:AO} {a:Addr} {e:List (Addr × Obj)} (h:isCel o = true) (r:OR D c o a e):OR D' c' (.cell Option.none) a e:=by
 k_extra "fG"; cases o with
 | cell v =>
  (refine F1d r fun o u e1 d Z=>?_)
  exact ⟨o,u,e1,d,fun Z q=>by k_extra "q"⟩
 | _=>exact absurd h Bool.false_ne_true
theorem B8q {c':Cfg} {v v':AV} {a:Addr} {e:List (Addr × Obj)} (r:OR D c (.cell (some v)) a e) (h:∀ y,VR D.θ c v y → VR D'.θ c' v' y):OR D' c' (.cell (some v')) a e:=by
 (k_extra "fG"; refine F1d r fun o u e1 d k=>?_)
 (refine B0o (k v rfl) fun y hy1 hy2=>?_)
 exact ⟨o,u,e1,d,fun z hz=>⟨y,hy1,oYY hz ▸ h y hy2⟩⟩
theorem Inv.at' (I:Inv D c) {i:Nat} {o:AO} (e:c.H.get i = o) (hi:i < c.H.n):OR D c o (c.mu i) (c.ent i):=e ▸ I.rel i hi
theorem C2t {k:Nat} (h:Nat.blt k os.length = true):k < (mkS os).n:=by rw [C4o]; exact nYY h
theorem B5o {i k:Nat} (h:Nat.blt k os.length = true) (e:wh.getD k 0 = i) (u:Value) (r:VR D.θ c (.ref i) u):VR D'.θ (c.rc wh os) (.ref k) u:=⟨C2t h,by k_extra "fG"; subst e; exact r.2⟩
inductive RelL (R:AO → Nat → Prop):List AO → List Nat → Prop
 | nil:RelL R [] []
 | cons {o:AO} {i:Nat} {os:List AO} {wh:List Nat} (h:R o i) (t:RelL R os wh):RelL R (o :: os) (i :: wh)
theorem RelL.get {R:AO → Nat → Prop} {os:List AO} {wh:List Nat} (t:RelL R os wh):∀ {j:Nat} {o:AO},os[j]? = some o → R o (wh.getD j 0):=by
 induction t with
 | nil=>exact fun h=>noP h
 | cons r t ih =>
  intro j o h
  cases j with
  | zero=>exact eqQ (oYY h).symm r
  | succ j=>exact ih h
theorem RelL.len {R:AO → Nat → Prop} {os:List AO} {wh:List Nat} (t:RelL R os wh):wh.length = os.length:=by
 induction t with
 | nil=>rfl
 | cons r t ih=>exact congrArg Nat.succ ih
inductive LocL (R:Nat → AV → Prop):Nat → List (Option AV) → Prop
 | nil {k:Nat}:LocL R k []
 | no {k:Nat} {l:List (Option AV)} (t:LocL R (k + 1) l):LocL R k (Option.none :: l)
 | yes {k:Nat} {v:AV} {l:List (Option AV)} (h:R k v) (t:LocL R (k + 1) l):LocL R k (some v :: l)
theorem LocL.get {R:Nat → AV → Prop} {l:List (Option AV)} {k:Nat} (t:LocL R k l):∀ {i:Nat} {v:AV},nth? l i = some (some v) → R (k + i) v:=by
 induction t with
 | nil=>exact fun h=>noP h
 | no t ih =>
  intro i v h
  cases i with
  | zero=>exact noP (oYY h)
  | succ i=>show R (_ + i + 1) v; exact eqQ (Nat.add_right_comm _ i 1) (ih h)
 | yes r t ih =>
  intro i v h
  cases i with
  | zero=>exact eqQ (oYY (oYY h)).symm r
  | succ i=>show R (_ + i + 1) v; exact eqQ (Nat.add_right_comm _ i 1) (ih h)
theorem C6n {α β:Type} {f:α → β}:∀ {l:List α} {i:Nat} {x:α},nth? l i = some x → nth? (l.map f) i = some (f x) ∧ x ∈ l
 | a :: l,0,J,e=>oYY e ▸ ⟨rfl,.head _⟩
 | a :: l,i + 1,J,e=>let ⟨h1,h2⟩:=C6n (l:=l) (i:=i) e; ⟨h1,.tail _ h2⟩
theorem C2m {A:Around} {d:Nat} {env:Env} {ly:Ly} {f f0:Fm} (I:Inv D c) (F:FR D c env ly f) (K:AOk D A d c env) (hb:D'.b0 = D.b0) (nd:wh.Nodup) (lt:∀ i ∈ wh,i < c.H.n)
  (rel:RelL (fun o i=>OR D' (c.rc wh os) o (c.mu i) (c.ent i)) os wh) (loc:LocL (fun i v=>∃ v',nth? f.loc i = some (some v') ∧ ∀ u,VR D.θ c v' u → VR D'.θ (c.rc wh os) v u) 0 f0.loc)
  (hc:f0.cel.all (fun k=>Nat.blt k os.length) = true) (ec:f.cel = f0.cel.map fun k=>wh.getD k 0):Inv D' (c.rc wh os) ∧ FR D' (c.rc wh os) env ly f0 ∧ AOk D' A d (c.rc wh os) env :=
 ⟨D1z I hb rel.len nd lt fun Z Z h=>rel.get h,D8b F hb rel.len lt (fun i v h=>Nat.zero_add i ▸ loc.get h) fun j k h=>by
  obtain ⟨h1,h2⟩:=C6n (f:=fun k=>wh.getD k 0) h
  exact ⟨nYY (List.all_eq_true.mp hc k h2),ec ▸ h1⟩,D2a K hb rel.len lt⟩
theorem ltL {n m:Nat} (h:m < n) {l:List Nat} (k:l.all (Nat.ble · m) = true):∀ i ∈ l,i < n:=fun i hi=>Nat.lt_of_le_of_lt (nYY (List.all_eq_true.mp k i hi)) h
end
noncomputable def isI (v:AV):Bool:=(tie v).isSome
noncomputable def vl (θ:Nat → Int) (v:AV):Int:=match tie v with | some t=>t.sem θ | Option.none=>0
theorem D7j {θ:Nat → Int} {c:Cfg} {v:AV} {u:Value} (h:isI v = true) (r:VR θ c v u):∃ t,u = .int (vl θ v) t:=by
 cases v with
 | int i=>exact r
 | sym t=>exact r
 | _=>exact absurd h Bool.false_ne_true
noncomputable def symL (i n:Nat):List AV:=@Nat.rec (fun _=>Nat → List AV) (fun J=>[]) (fun n ih i=>.sym (.var i) :: ih (i + 1)) n i
theorem D3w {θ:Nat → Int} {c:Cfg} {vs:List Value} {ns:List Int} (h:IntsAre vs ns):∀ i,(∀ j,j < ns.length → θ (i + j) = ns.getD j 0) → VRs θ c (symL i ns.length) vs:=by
 induction h with
 | nil=>intro i _; exact .nil
 | cons n t h ih =>
  intro i hi
  refine .cons ⟨t,?_⟩ (ih (i + 1) fun j hj=>?_)
  ·have:=hi 0 (by simp)
   show Value.int n t = Value.int (θ i) t
   (refine eqQ (show i = i + 0 from rfl) ?_; refine eqQ this ?_); rfl
  ·have:=hi (j + 1) (by simp; exact hj)
   (refine eqQ (show i + 1 + j = i + (j + 1) by exact om37) ?_; refine eqQ this ?_); rfl
theorem C2h:∀ n i,(symL i n).length = n
 | 0,J=>rfl
 | n + 1,i=>by exact congrArg Nat.succ (C2h n _)
theorem B8g {x:Str}:∀ {l:List Str} {j:Nat},idxS x l = some j → l[j]? = some x
 | [],J,h=>by k_extra "h"
 | y :: l,j,h=>by
  dsimp only [idxS] at h
  by_cases q:x = y
  ·replace h:=(if_pos q) ▸ h
   refine B0g h ?_
   (refine eqQ q ?_); rfl
  ·replace h:=(if_neg q) ▸ h
   cases e:idxS x l with
   | none=>replace h:=e ▸ h; k_extra "h"
   | some k =>
    replace h:=e ▸ h
    refine B0g h ?_
    simp only [List.getElem?_cons_succ]
    exact B8g e
theorem C7n {x y:Str} {l:List Str} (h:idxS x (y :: l) = some 0):x = y:=by
 dsimp only [idxS] at h
 by_cases q:x = y
 ·exact q
 ·replace h:=(if_neg q) ▸ h
  cases e:idxS x l with
  | none=>replace h:=e ▸ h; k_extra "h"
  | some k=>replace h:=e ▸ h; (first | exact noP h | exact fT h | exact absurd h (fun e=>nomatch e))
inductive Rel3 (R:AO → Addr → List (Addr × Obj) → Prop):List AO → List Addr → List (List (Addr × Obj)) → Prop
 | nil:Rel3 R [] [] []
 | cons {o:AO} {a:Addr} {e:List (Addr × Obj)} {os:List AO} {as:List Addr} {es:List (List (Addr × Obj))} (h:R o a e) (t:Rel3 R os as es):Rel3 R (o :: os) (a :: as) (e :: es)
theorem Rel3.get {R:AO → Addr → List (Addr × Obj) → Prop} {os:List AO} {as:List Addr} {es:List (List (Addr × Obj))} (t:Rel3 R os as es):∀ {j:Nat} {o:AO},os[j]? = some o → R o (as.getD j 0) (es.getD j []):=by
 induction t with
 | nil=>exact fun h=>noP h
 | cons r t ih =>
  intro j o h
  cases j with
  | zero=>exact eqQ (oYY h).symm r
  | succ j=>exact ih h
theorem B2u {α:Type} {p:α}:∀ {es:List (List α)} {i:Nat},p ∈ es.getD i [] → p ∈ es.flatten
 | [],i,h=>(by first | exact noP (show p ∈ ([]:List α) from h) | exact fT (show p ∈ ([]:List α) from h) | exact nomatch (show p ∈ ([]:List α) from h))
 | e :: es,0,h=>List.mem_append_left _ h
 | e :: es,i + 1,h=>List.mem_append_right _ (B2u (es:=es) (i:=i) h)
theorem C7u {α β:Type} {f:α → β}:∀ {es:List (List α)} (i:Nat),(es.flatten.map f).Nodup → ((es.getD i []).map f).Nodup
 | [],J,Y=>List.nodup_nil
 | e :: es,0,h=>by rw [List.flatten_cons,List.map_append,List.nodup_append] at h; exact h.1
 | e :: es,i + 1,h=>by rw [List.flatten_cons,List.map_append,List.nodup_append] at h; exact C7u (es:=es) i h.2.1
theorem C3f {α β:Type} {f:α → β} {p q:α}:∀ {es:List (List α)} {i j:Nat},(es.flatten.map f).Nodup → i ≠ j → p ∈ es.getD i [] → q ∈ es.getD j [] → f p ≠ f q
 | [],J,Y,V,O,hp,U=>(by first | exact noP (show p ∈ ([]:List α) from hp) | exact fT (show p ∈ ([]:List α) from hp) | exact nomatch (show p ∈ ([]:List α) from hp))
 | e :: es,0,0,J,n,Y,V=>absurd rfl n
 | e :: es,0,j + 1,h,J,hp,hq=>by
  rw [List.flatten_cons,List.map_append,List.nodup_append] at h
  exact h.2.2 _ (List.mem_map_of_mem hp) _ (List.mem_map_of_mem (B2u (es:=es) (i:=j) hq))
 | e :: es,i + 1,0,h,J,hp,hq=>by
  rw [List.flatten_cons,List.map_append,List.nodup_append] at h
  exact Ne.symm (h.2.2 _ (List.mem_map_of_mem hq) _ (List.mem_map_of_mem (B2u (es:=es) (i:=i) hp)))
 | e :: es,i + 1,j + 1,h,n,hp,hq=>by
  rw [List.flatten_cons,List.map_append,List.nodup_append] at h
  exact C3f (es:=es) (i:=i) (j:=j) h.2.1 (fun z=>n (congrArg Nat.succ z)) hp hq
noncomputable abbrev D7d (as:List Addr) (es:List (List (Addr × Obj))) (os:List AO) (s:Shared) (fr:Addr → Prop):Cfg:=⟨fun i=>as.getD i 0,fun i=>es.getD i [],mkS os,s,fr⟩
theorem inv3 {D:Gd} {as:List Addr} {es:List (List (Addr × Obj))} {os:List AO} {s:Shared} {fr:Addr → Prop} (rel:Rel3 (fun o a e=>OR D (D7d as es os s fr) o a e) os as es) (nd:(es.flatten.map (·.1)).Nodup) (live:∀ p ∈ es.flatten,s.heap.get? p.1 = some p.2 ∧ D.b0.get? p.1 = none)
  (st:∀ a o,D.b0.get? a = some o → s.heap.get? a = some o) (g:AllBare s.gens):Inv D (D7d as es os s fr) :=
 ⟨fun i hi=>by
  rw [C4o] at hi
  have e:=List.getElem?_eq_getElem hi
  (refine eqQ (C6s e) ?_)
  exact rel.get e,fun i Z p hp=>(live p (B2u hp)).1,fun i j Z Z n p hp q hq=>C3f nd n hp hq,fun i Z=>C7u i nd,fun i Z p hp=>(live p (B2u hp)).2,st,g⟩
theorem cel0 {D:Gd} {c:Cfg} {o:Obj} {x:Addr} (h:∃ u,o.data = .cell u):OR D c (.cell Option.none) x [(x,o)]:=let ⟨u,hu⟩:=h; ⟨_,u,rfl,hu,fun Z q=>noP q⟩
section
variable {D:Gd} {c:Cfg} {env:Env}
theorem C5o {a0 k i:Nat} (I:Inv D c) (hi:i < c.H.n) (h:c.H.get i = .tab a0 k):GrownAt a0 c.s.heap:=by
 have r:=I.rel i hi
 rw [h] at r
 have z:∃ ps,(a0,tabObj ps) ∈ c.ent i:=by
  rcases k with _ | _ | k
  ·exact ⟨#[],by rw [r.2,r.1]; exact .head _⟩
  ·rcases r.2 with e | ⟨cc,oc,vs,t,e,_⟩
   ·exact ⟨_,by rw [e,r.1]; exact .head _⟩
   ·exact ⟨_,by rw [e,r.1]; exact .head _⟩
  ·obtain ⟨e,ps,e2⟩:=r
   exact ⟨ps,by rw [e2,e]; exact .head _⟩
 obtain ⟨ps,hp⟩:=z
 exact ⟨ps,I.hold i hi _ hp⟩
end
end Ab
end
section
set_option backward.match.sparseCases false
set_option maxRecDepth 1000000
namespace Ab
/- affine normal form in the quotient: var 0 = W * var 5 + r -/
noncomputable def nrm (W r:Int) (t:IE):Option (Int × Int):=@IE.rec (fun _=>Option (Int × Int)) (fun i=>some (0,i)) (fun n=>@Nat.rec (fun _=>Option (Int × Int)) (some (W,r)) (fun k J=>@Bool.rec (fun _=>Option (Int × Int)) Option.none (some (1,0)) (Nat.beq k 4)) n)
 (fun k a b x y=>B0h x (fun p=>B0h y (fun q=>match k with
  | .add=>some (p.1 + q.1,p.2 + q.2)
  | .sub=>some (p.1 - q.1,p.2 - q.2)
  | .mul=>ifB (decide (q.1 = 0)) (some (p.1 * q.2,p.2 * q.2)) Option.none
  | .fdiv=>ifB (decide (q.1 = 0) && (decide (p.1.fmod q.2 = 0) && !(decide (q.2 = 0)))) (some (p.1.fdiv q.2,p.2.fdiv q.2)) Option.none
  | .fmod=>ifB (decide (q.1 = 0) && (decide (p.1.fmod q.2 = 0) && !(decide (q.2 = 0)))) (some (0,p.2.fmod q.2)) Option.none
  | _=>Option.none) Option.none) Option.none) t
noncomputable def F1z (p:Int × Int):AV:=match decide (p.1 = 0) with
 | true=>.int p.2
 | false=>.sym (.op .add (.op .mul (.var 5) (.lit p.1)) (.lit p.2))
noncomputable def D0b:IE → Option Nat
 | .var n=>ifB (Nat.ble 10 n && Nat.ble n 14) (some n) Option.none
 | _=>Option.none
noncomputable def D0t (W r:Int):IE → Option Int
 | .op k x y=>match k with
  | .eq=>B0h (D0b x) (fun i=>B0h (D0b y) (fun j=>ifB (Nat.beq i j) (some 1) (some 0)) Option.none) (B0h (nrm W r x) (fun p=>B0h (nrm W r y) (fun q=>ifB (decide (p.1 = q.1)) (some (b2i (decide (p.2 = q.2)))) Option.none) Option.none) Option.none)
  | .fmod=>B0h (nrm W r (.op .fmod x y)) (fun p=>ifB (decide (p.1 = 0)) (some p.2) Option.none) Option.none
  | .lt=>B0h (D0b x) (fun J=>ifB (eqE y (.lit 0)) (some 0) Option.none) Option.none
  | _=>Option.none
 | _=>Option.none
noncomputable def F0p (W r:Int) (t:IE):Option Nat:=B0h (nrm W r t) (fun p=>ifB (Nat.ble (p.1.natAbs * 512 + p.2.natAbs) 1000000) (some 20) Option.none) Option.none
noncomputable def ansB (W r : Int) (x y : AV) : Option (AV × AV) := do
 let X ← tie x
 let d ← C1c y
 let p ← nrm W r (.op .fdiv X (.lit d))
 let q ← nrm W r (.op .fmod X (.lit d))
 let b ← F0p W r X
 gd (Nat.ble (intBits d) 20)
 some (F1z p,F1z q)
noncomputable def cxB (W r:Int):Cx:=⟨[(157,D9n),(162,D9m),(169,D9l),(174,D9k)],[(56,0,pDm 0 1 (ansB W r)),(77,0,D8e)],D0t W r,F0p W r⟩
noncomputable def frB':S → List S
 | .fr J Y V b=>b
 | _=>[]
noncomputable def bodyF:List S:=frB' (fl179.body.getD 12 (.ret (.lit .none)))
noncomputable def stI:List S:=bodyF.take 7
noncomputable def nmV (m:Nat):List AV:=(List.range m).map fun i=>.pc [.var (10 + i)]
noncomputable def osI (m:Nat):List AO:=[.tab 30 1,.tab 37 1,.list (nmV m),.lex [] 0 [],.cell (some (.ref 3)),.cell Option.none]
noncomputable def fmI (row:List Nat) (W side:Int):Fm:=⟨[Option.none,Option.none,Option.none,Option.none,some (.str row),Option.none,some (.pc [.blob 21]),some (.ref 2),some (.int W),Option.none,some (.opq 22),some (.sym (.var 0)),some (.int side),Option.none,Option.none,Option.none,Option.none,Option.none],[5,4],40⟩
/- what the law says -/
noncomputable def pk (l:List Nat):Nat → Nat × List Nat:=@List.rec Nat (fun _=>Nat → Nat × List Nat) (fun J=>(0,[])) (fun a t ih i=>@Nat.rec (fun _=>Nat × List Nat) (a,t) (fun k J=>@Prod.rec Nat (List Nat) (fun _=>Nat × List Nat) (fun b u=>(b,a :: u)) (ih k)) i) l
noncomputable def coup (l:List Nat):Nat → List Nat → Nat → List (Nat × Nat):=@List.rec Nat (fun _=>Nat → List Nat → Nat → List (Nat × Nat)) (fun J Y V=>[]) (fun c row ih p ws r=>@Bool.rec (fun _=>List (Nat × Nat)) (@Prod.rec Nat (List Nat) (fun _=>List (Nat × Nat)) (fun a u=>(a,p) :: ih (.succ p) u (Nat.div r (B5y ws))) (pk ws (Nat.mod r (B5y ws)))) (ih (.succ p) (apL ws [p]) r) (Nat.beq c 40)) l
noncomputable def cnt2 (h:Nat × Nat) (l:List (Nat × Nat)):Nat → Nat → Nat × Nat:=@List.rec (Nat × Nat) (fun _=>Nat → Nat → Nat × Nat) (fun a c=>(a,c)) (fun q J ih a c=>@Bool.rec (fun _=>Nat × Nat) (@Bool.rec (fun _=>Nat × Nat) (ih a c) (ih a (.succ c)) (Nat.ble (.succ q.1) h.2)) (ih (.succ a) c) (Nat.ble (.succ q.1) h.1)) l
noncomputable def tabOf (row:List Nat) (r:Nat):List (Nat × Nat):=@List.rec (Nat × Nat) (fun _=>List (Nat × Nat)) [] (fun h t ih=>cnt2 h t 0 0 :: ih) (coup row 0 [] r)
noncomputable def D8a (l : List AV) : Option (List Nat) := @List.rec AV (fun _ => Option (List Nat)) (some []) (fun a r ih => do
  let i ← B4q a
  let l ← ih
  some (i :: l)) l
noncomputable def D2d (o:AO) (p:Nat × Nat):Bool:=B0h (C5i o) (fun l=>B0h (two? l) (fun q=>B0h (C1c q.1) (fun a=>B0h (C1c q.2) (fun b=>eqZ a p.1 && eqZ b p.2) false) false) false) false
noncomputable def pairsAre (H:St) (l:List Nat):List (Nat × Nat) → Bool:=@List.rec Nat (fun _=>List (Nat × Nat) → Bool) (fun t=>match t with | []=>true | J :: Y=>false) (fun i r ih t=>match t with | []=>false | p :: t=>D2d (H.get i) p && ih t) l
noncomputable def symO (v:AV):Option IE:=@AV.rec (fun _=>Option IE) none (fun J=>none) (fun J=>none) (fun t=>some t) (fun J=>none) (fun J=>none) (fun J=>none) (fun J=>none) (fun J=>none) (fun J=>none) v
noncomputable def opqO (v:AV):Option Nat:=@AV.rec (fun _=>Option Nat) none (fun J=>none) (fun J=>none) (fun J=>none) (fun J=>none) (fun J=>none) (fun J=>none) (fun J=>none) (fun J=>none) (fun i=>some i) v
/- equality,told only where it is wanted -/
noncomputable def C1n (x:AV):AV → Bool:=@AV.rec (fun _=>AV → Bool) (fun Y=>false) (fun J Y=>false) (fun i y=>B0h (C1c y) (eqZ i) false) (fun t y=>B0h (symO y) (eqE t) false) (fun s y=>B0h (B5a y) (D6y s) false) (fun n y=>B0h (B4q y) (Nat.beq n) false) (fun J Y=>false) (fun J Y=>false) (fun g y=>B0h (pcO y) (fun h=>D6y (pcE g) (pcE h)) false) (fun i y=>B0h (opqO y) (Nat.beq i) false) x
noncomputable def F0e (x:List AV):List AV → Bool:=@List.rec AV (fun _=>List AV → Bool) (fun y=>y.isEmpty) (fun a x ih y=>@List.rec AV (fun _=>Bool) false (fun b y J=>@Bool.rec (fun _=>Bool) false (ih y) (C1n a b)) y) x
noncomputable def D7b (x:List (Option AV)):List (Option AV) → Bool:=@List.rec (Option AV) (fun _=>List (Option AV) → Bool) (fun y=>y.isEmpty) (fun a x ih y=>@List.rec (Option AV) (fun _=>Bool) false (fun b y J=>@Bool.rec (fun _=>Bool) false (ih y) (@Option.rec AV (fun _=>Bool) b.isNone (fun v=>B0h b (C1n v) false) a)) y) x
noncomputable def F1m:AO → Bool
 | .lex y k pb=>y.isEmpty && (Nat.beq k 0 && pb.isEmpty)
 | _=>false
noncomputable def celI (i:Nat):AO → Bool
 | .cell v=>B0h v (fun a=>B0h (B4q a) (Nat.beq i) false) false
 | _=>false
noncomputable def celN:AO → Bool
 | .cell v=>v.isNone
 | _=>false
noncomputable def B5i (l:List Nat):Bool:=@List.rec Nat (fun _=>Bool) true (fun a r ih=>!(C0h a r) && ih) l
noncomputable def endI (o : Option (Flo × Fm × St)) (row : List Nat) (m : Nat) (W side : Int) (t : List (Nat × Nat)) : Option (Nat × List Nat) := do
 let x ← D2f o
 let i ← B4q (← B4t x.1 15)
 let l ← B9q (x.2.get i)
 let qs ← D8a l
 gd (pairsAre x.2 qs t)
 gd (B5i (qs ++ [i]) && (qs ++ [i]).all fun j=>Nat.ble 6 j && Nat.blt j x.2.n)
 gd (tab1? 30 (x.2.get 0) && tab1? 37 (x.2.get 1))
 gd (B0h (B9q (x.2.get 2)) (F0e (nmV m)) false)
 gd (F1m (x.2.get 3))
 gd (celI 3 (x.2.get 4))
 gd (isCel (x.2.get 5))
 gd (D7b (x.1.loc.take 11) ((fmI row W side).loc.take 11))
 gd (Nat.beq x.1.dep 40)
 some (i,qs)
noncomputable def C8m (row:List Nat) (m:Nat) (W:Int) (r:Nat) (side:Int):Bool:=(endI ((run (cxB W r) 100000).ex stI (fmI row W side) (mkS (osI m))) row m W side (tabOf row r)).isSome
noncomputable def tabAO (t:List (Nat × Nat)) (n:Nat):List AO:=t.map (fun p=>.tup [.int p.1,.int p.2]) ++ [.list ((List.range t.length).map fun k=>.ref (n + k))]
noncomputable def okK (side:Int) (W:Int) (r:Nat):Bool:=decide (side = 1) || (decide (side = -1) && (Nat.beq r 0 || decide ((r:Int) + 1 = W)))
noncomputable def celJ:AO → Option Nat
 | .cell v=>B0h v B4q Option.none
 | _=>Option.none
/- the loop's body up to its checks,from the table of what the law says -/
noncomputable def D0e (row : List Nat) (m : Nat) (W r : Int) (f : Fm) (H : St) : Option (Fm × St) := do
 let v4 ← B4t f 4
 gd (C1n v4 (.str row))
 let v6 ← B4t f 6
 gd (C1n v6 (.pc [.blob 21]))
 let i7 ← B4q (← B4t f 7)
 let l7 ← B9q (H.get i7)
 gd (F0e l7 (nmV m))
 let v8 ← B4t f 8
 gd (C1n v8 (.int W))
 let i10 ← B4q (← B4t f 10)
 let X ← tie (← B4t f 11)
 let side ← C1c (← B4t f 12)
 let p ← nrm W r X
 gd (decide (p.1.fmod W = 0) && (Nat.ble (p.1.fdiv W).natAbs 1 && Nat.ble (p.2.fdiv W).natAbs 100))
 gd (okK side W (p.2.fmod W).toNat)
 let i0 ← nth? f.cel 0
 let i1 ← nth? f.cel 1
 gd (decide (f.cel = [i0,i1]))
 gd (celN (H.get i0))
 let il ← celJ (H.get i1)
 gd (F1m (H.get il))
 gd (tst 30 1 H && tst 37 2 H)
 gd (B5i [1,2,i7,il,i1,i0] && [1,2,i7,il,i1,i0].all fun j=>Nat.blt j H.n)
 gd (Nat.beq f.dep 40 && Nat.blt i10 H.n)
 let t:=tabOf row (p.2.fmod W).toNat
 some (⟨[Option.none,Option.none,Option.none,Option.none,some (.str row),Option.none,some (.pc [.blob 21]),some (.ref i7),some (.int W),Option.none,some (.ref i10),Option.none,Option.none,Option.none,Option.none,some (.ref (H.n + t.length)),Option.none,Option.none],f.cel,40⟩,mkSa H (tabAO t H.n))
end Ab
end
section
namespace Ab
open Mine (Pr)
theorem B7y {p1 q t:Int} (h:p1.fmod q = 0) (p2:Int):p1 * t + p2 = p2 + q * (p1.fdiv q * t):=by
 rw [← Int.mul_assoc,Int.mul_fdiv_cancel_of_fmod_eq_zero h,Int.add_comm]
theorem F1x {a b c:Bool} {P:Prop} (h:(a && (b && c)) = true) (q:a = true → b = true → c = true → P):P:=B1b h fun h1 h=>B1b h fun h2 h3=>q h1 h2 h3
theorem B3t {θ:Nat → Int} {W r:Int} (h0:θ 0 = W * θ 5 + r):∀ {t:IE} {p:Int × Int},nrm W r t = some p → t.sem θ = p.1 * θ 5 + p.2
 | .lit i,p,h=>by
  (refine eqR (oYY h) ?_)
  show i = 0 * θ 5 + i
  simp only [Int.zero_mul,Int.zero_add]
 | .var n,p,h=>by
  cases n with
  | zero=>(refine eqR (oYY h) ?_); exact h0
  | succ k =>
   have h:(@Bool.rec (fun _=>Option (Int × Int)) Option.none (some (1,0)) (Nat.beq k 4)) = some p:=h
   cases q:Nat.beq k 4 with
   | false=>rw [q] at h; exact noP h
   | true =>
    rw [q] at h
    (refine eqR (oYY h) ?_; refine eqQ (Nat.eq_of_beq_eq_true q) ?_)
    show θ 5 = 1 * θ 5 + 0
    simp only [Int.one_mul,Int.add_zero]
 | .op k x y,p,h=>by
  refine B1i h (fun a ha h=>B1i h (fun b hb h=>?_) fun _ h=>noP h) fun _ h=>noP h
  have ea:=B3t h0 ha
  have eb:=B3t h0 hb
  show k.sem (x.sem θ) (y.sem θ) = _
  (refine eqQ ea ?_; refine eqQ eb ?_)
  cases k with
  | add =>
   (refine eqR (oYY h) ?_)
   show a.1 * θ 5 + a.2 + (b.1 * θ 5 + b.2) = (a.1 + b.1) * θ 5 + (a.2 + b.2)
   rw [Int.add_mul]; omega
  | sub =>
   (refine eqR (oYY h) ?_)
   show a.1 * θ 5 + a.2 - (b.1 * θ 5 + b.2) = (a.1 - b.1) * θ 5 + (a.2 - b.2)
   rw [Int.sub_mul]; omega
  | mul =>
   have h:ifB (decide (b.1 = 0)) (some (a.1 * b.2,a.2 * b.2)) Option.none = some p:=h
   refine prB h fun q h=>?_
   (refine eqR (oYY h) ?_; refine eqQ (of_decide_eq_true q) ?_)
   show (a.1 * θ 5 + a.2) * (0 * θ 5 + b.2) = a.1 * b.2 * θ 5 + a.2 * b.2
   simp only [Int.zero_mul,Int.zero_add,Int.add_mul,Int.mul_right_comm]
  | fdiv =>
   have h:ifB (decide (b.1 = 0) && (decide (a.1.fmod b.2 = 0) && !(decide (b.2 = 0)))) (some (a.1.fdiv b.2,a.2.fdiv b.2)) Option.none = some p:=h
   refine prB h fun q h=>F1x q fun q1 q2 q3=>?_
   have hb:b.2 ≠ 0:=fun z=>by replace q3:=z ▸ q3; (first | exact noP q3 | exact fT q3 | exact nomatch q3)
   (refine eqR (oYY h) ?_; refine eqQ (of_decide_eq_true q1) ?_)
   show (a.1 * θ 5 + a.2).fdiv (0 * θ 5 + b.2) = a.1.fdiv b.2 * θ 5 + a.2.fdiv b.2
   rw [Int.zero_mul,Int.zero_add,B7y (of_decide_eq_true q2),Int.add_mul_fdiv_left _ _ hb,Int.add_comm]
  | fmod =>
   have h:ifB (decide (b.1 = 0) && (decide (a.1.fmod b.2 = 0) && !(decide (b.2 = 0)))) (some ((0:Int),a.2.fmod b.2)) Option.none = some p:=h
   refine prB h fun q h=>F1x q fun q1 q2 q3=>?_
   (refine eqR (oYY h) ?_; refine eqQ (of_decide_eq_true q1) ?_)
   k_extra "fG"; show (a.1 * θ 5 + a.2).fmod (0 * θ 5 + b.2) = 0 * θ 5 + a.2.fmod b.2
   simp only [Int.zero_mul,Int.zero_add,Int.zero_add,B7y (of_decide_eq_true q2),Int.add_mul_fmod_self_left]
  | _=>exact noP h
structure NmOk (θ:Nat → Int):Prop where
 ne:∀ i j,10 ≤ i → i ≤ 14 → 10 ≤ j → j ≤ 14 → i ≠ j → θ i ≠ θ j
 pos:∀ i,10 ≤ i → i ≤ 14 → 0 ≤ θ i
structure AfOk (θ:Nat → Int) (W r:Int):Prop where
 eq:θ 0 = W * θ 5 + r
 lt:(θ 5).natAbs ≤ 512
theorem B4f {t:IE} {n:Nat} (h:D0b t = some n):t = .var n ∧ 10 ≤ n ∧ n ≤ 14:=by
 cases t with
 | var k =>
  have h:ifB (Nat.ble 10 k && Nat.ble k 14) (some k) Option.none = some n:=h
  refine prB h fun q h=>B1b q fun q1 q2=>?_
  (refine eqR (oYY h) ?_)
  exact ⟨rfl,nYY q1,nYY q2⟩
 | _=>exact noP h
theorem beqD (x y:Int):(x == y) = decide (x = y):=by
 by_cases h:x = y
 ·(refine eqQ (decide_eq_true h) ?_; exact eqQ (beq_iff_eq.mpr h) rfl)
 ·rw [decide_eq_false h]; exact beq_eq_false_iff_ne.mpr h
theorem D0s {θ:Nat → Int} {W r:Int} (A:AfOk θ W r) (N:NmOk θ) {t:IE} {i:Int} (h:D0t W r t = some i):t.sem θ = i:=by
 cases t with
 | lit=>exact noP h
 | var=>exact noP h
 | op k x y =>
  cases k with
  | eq =>
   refine B1i h (fun a ha h1=>B1i h1 (fun b hb h2=>?_) fun _ h2=>noP h2) fun _ h=>B1i h (fun p hp h=>B1i h (fun q hq h=>prB h fun z h=>?_) fun _ h=>noP h) fun _ h=>noP h
   ·(refine C5f (B4f ha) fun e1 a1 a2=>?_)
    (refine C5f (B4f hb) fun e2 b1 b2=>?_)
    (refine eqQ e1 ?_; refine eqQ e2 ?_)
    show b2i (θ a == θ b) = i
    refine blP h2 (fun z h=>?_) fun z h=>?_
    ·rw [Nat.eq_of_beq_eq_true z,beqD,decide_eq_true rfl]
     exact oYY h
    ·rw [beqD,decide_eq_false (N.ne a b a1 a2 b1 b2 (Nat.ne_of_beq_eq_false z))]
     exact oYY h
   ·show b2i (x.sem θ == y.sem θ) = i
    simp only [beqD,B3t A.eq hp,B3t A.eq hq,of_decide_eq_true z,← oYY h]
    exact congrArg b2i (decide_eq_decide.mpr ⟨fun e=>by omega,fun e=>by (exact eqQ e rfl)⟩)
  | fmod =>
   refine B1i h (fun p hp h=>prB h fun z h=>?_) fun _ h=>noP h
   simp only [B3t A.eq hp,of_decide_eq_true z,Int.zero_mul,Int.zero_add]
   exact oYY h
  | lt =>
   refine B1i h (fun a ha h1=>prB h1 fun z h2=>?_) fun _ h=>noP h
   (refine C5f (B4f ha) fun e1 a1 a2=>?_)
   (refine eqQ e1 ?_; refine eqQ (B4v _ _ z) ?_; refine eqR (oYY h2) ?_)
   show b2i (decide (θ a < 0)) = 0
   (refine eqQ (decide_eq_false (Int.not_lt.mpr (N.pos a a1 a2))) ?_); rfl
  | _=>exact noP h
theorem C8t {θ:Nat → Int} {W r:Int} (A:AfOk θ W r) {t:IE} {b:Nat} (h:F0p W r t = some b):intBits (t.sem θ) ≤ b:=by
 refine B1i h (fun p hp h=>prB h fun z h=>?_) fun _ h=>noP h
 (refine eqQ (B3t A.eq hp) ?_; refine eqR (oYY h) ?_)
 refine intBits_le_iff.mpr ?_
 have h1:=nYY z
 have h2:=Int.natAbs_add_le (p.1 * θ 5) p.2
 rw [Int.natAbs_mul] at h2
 have h3:p.1.natAbs * (θ 5).natAbs ≤ p.1.natAbs * 512:=Nat.mul_le_mul_left _ A.lt
 show _ < 1048576
 omega
theorem F0j {D:Gd} {W r:Int} {cx:Cx} (e1:cx.facts = D0t W r) (e2:cx.bnd = F0p W r) (A:AfOk D.θ W r) (N:NmOk D.θ):CxOk D cx :=
 ⟨fun t i h=>D0s A N (by (refine eqR e1 ?_); exact h),fun t b h=>C8t A (by (refine eqR e2 ?_); exact h)⟩
theorem C8z {D:Gd} {c:Cfg} {p:Int × Int} (t:Tok):VR D.θ c (F1z p) (.int (p.1 * D.θ 5 + p.2) t):=by
 unfold F1z
 cases q:decide (p.1 = 0) with
 | true =>
  simp only [of_decide_eq_true q,Int.zero_mul,Int.zero_add]
  exact ⟨t,rfl⟩
 | false =>
  refine ⟨t,?_⟩
  show Value.int _ t = Value.int (D.θ 5 * p.1 + p.2) t
  rw [Int.mul_comm]
theorem D6q {D:Gd} {W r:Int} (A:AfOk D.θ W r):F1c D (ansB W r):=by
 intro x y q s h
 refine B0a h fun X hX h=>B0a h fun d hd h=>B0a h fun p hp h=>B0a h fun p2 hp2 h=>B0a h fun b hb h=>gdP h fun hz h=>B0r h fun z1 z2=>?_
 (refine eqQ z1 ?_; refine eqQ z2 ?_)
 have e1:=B3t A.eq hp
 have e2:=B3t A.eq hp2
 have hne:d ≠ 0:=fun z=>by
  (clear e1; (clear e2; subst z))
  refine B1i (show B0h (nrm W r X) (fun p=>B0h (some ((0:Int),(0:Int))) (fun q=>ifB (decide (q.1 = 0) && (decide (p.1.fmod q.2 = 0) && !(decide (q.2 = 0)))) (some (p.1.fdiv q.2,p.2.fdiv q.2)) Option.none) Option.none) Option.none = some p from hp) (fun a _ h=>?_) fun _ h=>noP h
  have h:ifB (decide ((0:Int) = 0) && (decide (a.1.fmod 0 = 0) && !(decide ((0:Int) = 0)))) (some (a.1.fdiv 0,a.2.fdiv 0)) Option.none = some p:=h
  refine prB h fun z _=>F1x z fun _ _ z=>(by first | exact noP z | exact fT z | exact nomatch z)
 have hB:=C8t A hb
 have hb2:b = 20:=by
  refine B1i hb (fun p hp h=>prB h fun z h=>?_) fun _ h=>noP h
  exact (oYY h).symm
 have hd1:1 ≤ intBits d:=Nat.not_lt.mp fun z=>hne (Int.natAbs_eq_zero.mp (Nat.lt_one_iff.mp (intBits_le_iff.mp (Nat.le_of_lt_succ z))))
 refine ⟨X.sem D.θ,d,fun c u h=>B2e hX h,fun c u h=>by rw [B0u hd] at h; exact h,hne,Nat.lt_of_le_of_lt (nYY hz) (by decide),?_,fun c t=>?_,fun c t=>?_⟩
 ·exact Nat.le_trans (hb2 ▸ hB) (Nat.le_trans (by decide:20 ≤ 256 * 1) (Nat.mul_le_mul_left 256 hd1))
 ·have e:Int.fdiv (X.sem D.θ) d = p.1 * D.θ 5 + p.2:=e1
  (refine eqQ e ?_); exact C8z t
 ·have e:Int.fmod (X.sem D.θ) d = p2.1 * D.θ 5 + p2.2:=e2
  (refine eqQ e ?_); exact C8z t
end Ab
end
section
namespace Ab
open Mine (Pr)
theorem B0p {α:Type} {k a:Nat} {v x:α} {r:List (Nat × α)} (h:lookN ((k,v) :: r) a = some x):(a = k ∧ x = v) ∨ lookN r a = some x:=by
 k_extra "fG"; have h:ifB (Nat.beq k a) (some v) (lookN r a) = some x:=h
 refine blP h (fun q h=>.inl ⟨(Nat.eq_of_beq_eq_true q).symm,(oYY h).symm⟩) fun q h=>.inr h
theorem wdB {w:World} {D:Gd} {W r:Int} {y:List Nat} (g:Gr w D) (hP:D.P = w.params) (hL:D.LX = LXe w y) (HC1:CodeHd D.b0 34 30) (HC2:CodeHd D.b0 41 37) (A:AfOk D.θ W r) (N:NmOk D.θ):Wd Pr w D (cxB W r) g1 where
 hP:=hP
 hN:=by (refine C4f g.top fun lo mean mg mb T=>?_); exact T.nolimit
 C:=F0j rfl rfl A N
 G:=C4v g
 L:=⟨_,_,C2w g hL ⟨_,_,g.X _ _ (by k_is),rfl⟩ ⟨_,_,g.X _ _ (by k_is),rfl⟩⟩
 F:=fun a f h=>by
  rcases B0p h with ⟨rfl,rfl⟩ | h
  ·(refine eqR D9f ?_); exact df157 g
  rcases B0p h with ⟨rfl,rfl⟩ | h
  ·(refine eqR D9e ?_); exact df162 g
  rcases B0p h with ⟨rfl,rfl⟩ | h
  ·(refine eqR D9d ?_); exact df169 g
  rcases B0p h with ⟨rfl,rfl⟩ | h
  ·(refine eqR D9c ?_); exact df174 g
  exact noP h
 P:=fun a m p h=>by
  rcases B0p h with ⟨rfl,h⟩ | h
  ·refine B0j h ?_
   exact D8d g (D6q A) HC1 HC2 ⟨_,_,g.X _ _ (by k_is),rfl⟩
  rcases B0p h with ⟨rfl,h⟩ | h
  ·refine B0j h ?_
   exact D4p g ⟨_,_,g.X _ _ (by k_is),rfl⟩
  exact noP h
/- a frame after a run of a part of it -/
theorem FR.over {X:Option Addr} {D D':Gd} {c ce c2:Cfg} {env:Env} {ly:Ly} {f f1 f':Fm} (F:FR D c env ly f) (S:Stp X c c2) (F1:FR D' ce env ly f1) (hs:c2.s = ce.s) (hc:f'.cel = f.cel)
  (loc:∀ i v,nth? f'.loc i = some (some v) → ∃ v',nth? f1.loc i = some (some v') ∧ ∀ u,VR D'.θ ce v' u → VR D.θ c2 v u):FR D c2 env ly f' where
 kind:=F.kind
 names:=F.names
 glb:=F.glb
 blt:=F.blt
 ns:=by
  k_extra "fG"; (refine B0o F1.ns fun m hm h=>?_)
  refine ⟨m,hs ▸ hm,fun i x v a b=>?_⟩
  k_extra "fG"; (refine B0o (loc i v b) fun v' h1 h2=>?_)
  (refine B0o (h i x v' a h1) fun u h3 h4=>?_)
  exact ⟨u,h3,h2 u h4⟩
 unt:=by
  (refine B0o F.ns fun m hm _=>?_)
  obtain ⟨o,e⟩:=Ns.live hm
  exact S.trk e F.unt
 cel:=fun x j i a b=>by
  obtain ⟨h1,h2⟩:=F.cel x j i a (hc ▸ b)
  exact ⟨Nat.lt_of_lt_of_le h1 S.n,by (refine eqQ (S.mu i h1) ?_); exact h2⟩
 above:=F.above
/- where an object lies in a list of numbers -/
noncomputable def B8x (i:Nat):List Nat → Option Nat
 | []=>none
 | a :: r=>if a = i then some 0 else (B8x i r).map (· + 1)
theorem B1g {i:Nat}:∀ {l:List Nat} {j:Nat},B8x i l = some j → j < l.length ∧ l.getD j 0 = i
 | [],j,h=>noP h
 | a :: r,j,h=>by
  dsimp only [B8x] at h
  by_cases q:a = i
  ·rw [if_pos q] at h
   (refine eqR (oYY h) ?_)
   exact ⟨Nat.succ_pos _,q⟩
  ·rw [if_neg q] at h
   ((refine B0o (Option.map_eq_some_iff.mp h) fun k hk e98=>?_); refine eqR e98 ?_)
   (have h1:=(B1g hk).1; have h2:=(B1g hk).2)
   exact ⟨Nat.succ_lt_succ h1,h2⟩
theorem B6b {i:Nat}:∀ {l:List Nat},B8x i l = none → i ∉ l
 | [],h=>List.not_mem_nil
 | a :: r,h=>by
  dsimp only [B8x] at h
  by_cases q:a = i
  ·rw [if_pos q] at h; exact noP h.symm
  ·rw [if_neg q] at h
   exact fun z=>(List.mem_cons.mp z).elim (fun z=>q z.symm) (B6b (Option.map_eq_none_iff.mp h))
theorem B2h:∀ {l:List Nat},B5i l = true → l.Nodup
 | [],h=>List.nodup_nil
 | a :: r,h=>B1b h fun h1 h2=>List.nodup_cons.mpr ⟨fun z=>by
  have e:C0h a r = true:=by rw [B2g]; exact decide_eq_true z
  rw [e] at h1; exact fT h1,B2h h2⟩
noncomputable abbrev Cfg.mg (c ce:Cfg) (wh rs:List Nat) (H2:St):Cfg:=⟨fun i=>if i < c.H.n then c.mu i else ce.mu (rs.getD (i - c.H.n) 0),fun i=>if i < c.H.n then (match B8x i wh with | some j=>ce.ent j | none=>c.ent i) else ce.ent (rs.getD (i - c.H.n) 0),H2,ce.s,c.fr⟩
theorem C9t {X:Option Addr} {D D':Gd} {c ce:Cfg} {wh:List Nat} {os:List AO} {rs:List Nat} {H2:St} (I:Inv D c) (hb:D'.b0 = D.b0) (hl:wh.length = os.length) (nd:wh.Nodup) (lt:∀ i ∈ wh,i < c.H.n) (Ie:Inv D' ce) (S:Stp X (c.rc wh os) ce) (unt:∀ a,c.fr a → ¬ Trk c a) (uX:∀ L,X = some L → ¬ Trk c L)
  (rn:rs.Nodup) (rl:∀ j ∈ rs,os.length ≤ j ∧ j < ce.H.n) (hn:H2.n = c.H.n + rs.length)
  (r1:∀ j,j < wh.length → OR D (c.mg ce wh rs H2) (H2.get (wh.getD j 0)) (c.mu (wh.getD j 0)) (ce.ent j)) (r2:∀ i,i < c.H.n → i ∉ wh → H2.get i = c.H.get i)
  (r3:∀ k,k < rs.length → OR D (c.mg ce wh rs H2) (H2.get (c.H.n + k)) (ce.mu (rs.getD k 0)) (ce.ent (rs.getD k 0))):Inv D (c.mg ce wh rs H2) ∧ Stp X c (c.mg ce wh rs H2):=by
 have on:(c.rc wh os).H.n = os.length:=C4o os
 have jl:∀ {i j},B8x i wh = some j → j < (c.rc wh os).H.n:=fun h=>by (refine eqQ on ?_; refine eqR hl ?_); exact (B1g h).1
 have jn:∀ {i j},B8x i wh = some j → j < ce.H.n:=fun h=>Nat.lt_of_lt_of_le (jl h) S.n
 have kl:∀ {i},i < H2.n → ¬ i < c.H.n → i - c.H.n < rs.length:=fun h1 h2=>by rw [hn] at h1; omega
 have rk:∀ {k},k < rs.length → os.length ≤ rs.getD k 0 ∧ rs.getD k 0 < ce.H.n:=fun h=>rl _ (B2t h)
 have lv:∀ {i p},i < c.H.n → p ∈ c.ent i → c.s.heap.get? p.1 ≠ none:=fun hi hp e=>by
  have z:=I.hold _ hi _ hp
  rw [e] at z; exact noP z
 have key:∀ i,i < H2.n → ∀ p ∈ (c.mg ce wh rs H2).ent i,(i < c.H.n ∧ B8x i wh = none ∧ p ∈ c.ent i) ∨ ∃ x,x < ce.H.n ∧ p ∈ ce.ent x ∧ ((i < c.H.n ∧ B8x i wh = some x ∧ x < os.length) ∨ (¬ i < c.H.n ∧ x = rs.getD (i - c.H.n) 0 ∧ os.length ≤ x)):=fun i hi p hp=>by
  have hp:p ∈ (if i < c.H.n then (match B8x i wh with | some j=>ce.ent j | none=>c.ent i) else ce.ent (rs.getD (i - c.H.n) 0)):=hp
  by_cases h:i < c.H.n
  ·replace hp:=(if_pos h) ▸ hp
   cases q:B8x i wh with
   | none=>replace hp:=q ▸ hp; exact .inl ⟨h,rfl,hp⟩
   | some j=>replace hp:=q ▸ hp; exact .inr ⟨j,jn q,hp,.inl ⟨h,rfl,on ▸ jl q⟩⟩
  ·replace hp:=(if_neg h) ▸ hp
   k_extra "fG"; have z:=rk (kl hi h)
   exact .inr ⟨_,z.2,hp,.inr ⟨h,rfl,z.1⟩⟩
 refine I.jump (by (refine eqQ hn ?_); exact Nat.le_add_right _ _) (fun i h=>if_pos h) (fun i hi p hp=>?_) (fun i h q hq=>?_) (fun i hi p hp=>?_) (fun i j hi hj ne p hp q hq z1 z2 e=>?_) (fun i hi=>?_) (fun b x t z e=>S.keep b x e (fun y=>t (C6c hl lt y)) z) S.ns (fun a o e=>Ie.stat a o (hb ▸ e)) (fun i hi=>?_) Ie.gens S.os S.drawn
 ·k_extra "fG"; rcases key i hi p hp with ⟨h,_,hp⟩ | ⟨x,hx,hp,h⟩
  ·exact .inl ⟨h,p,hp,rfl⟩
  ·k_extra "fG"; k_extra "fG"; rcases h with ⟨h,q,h3⟩ | ⟨h,rfl,h3⟩
   ·rcases (S.adr x (jl q)).1 p hp with ⟨q',hq',e⟩ | z
    ·exact .inl ⟨h,q',(B1g q).2 ▸ hq',e⟩
    ·exact .inr z
   ·exact .inr (S.fresh _ (by (refine eqQ on ?_); exact h3) hx p hp)
 ·show ∃ p ∈ (if i < c.H.n then (match B8x i wh with | some j=>ce.ent j | none=>c.ent i) else ce.ent (rs.getD (i - c.H.n) 0)),p.1 = q.1
  (refine eqQ (if_pos h) ?_)
  cases z:B8x i wh with
  | none=>exact ⟨q,hq,rfl⟩
  | some j=>exact (S.adr j (jl z)).2 q (by show q ∈ c.ent (wh.getD j 0); (refine eqQ ((B1g z).2) ?_); exact hq)
 ·k_extra "fG"; rcases key i hi p hp with ⟨h,q,hp⟩ | ⟨x,hx,hp,h⟩
  ·refine (S.keep p.1 p.2 (I.hold i h p hp) (fun ⟨j,hj,p',hp',e⟩=>?_) fun z=>uX _ z ⟨i,h,p,hp,rfl⟩).exact fun z=>unt _ z ⟨i,h,p,hp,rfl⟩
   k_extra "fG"; k_extra "fG"; rw [on,← hl] at hj
   exact I.dis i _ h (lt _ (B2t hj)) (fun z=>B6b q (z ▸ B2t hj)) p hp p' hp' e.symm
  ·exact Ie.hold x hx p hp
 ·rcases key i hi p hp with ⟨h,_,hp⟩ | ⟨x,hx,hp,h⟩
  ·exact lv h hp z1
  ·rcases key j hj q hq with ⟨h',_,hq⟩ | ⟨y,hy,hq,h'⟩
   ·exact lv h' hq z2
   ·refine Ie.dis x y hx hy (fun z=>?_) p hp q hq e
    (clear hq; (clear hy; subst z))
    rcases h with ⟨h1,q1,l1⟩ | ⟨h1,e1,l1⟩ <;> rcases h' with ⟨h2,q2,l2⟩ | ⟨h2,e2,l2⟩
    ·exact ne ((B1g q1).2.symm.trans (B1g q2).2)
    ·exact absurd l1 (Nat.not_lt.mpr l2)
    ·exact absurd l2 (Nat.not_lt.mpr l1)
    ·have:=C3e rn (kl hi h1) (kl hj h2) (e1.symm.trans e2)
     omega
 ·show ((if i < c.H.n then (match B8x i wh with | some j=>ce.ent j | none=>c.ent i) else ce.ent (rs.getD (i - c.H.n) 0):List (Addr × Obj)).map (·.1)).Nodup
  by_cases h:i < c.H.n
  ·(refine eqQ (if_pos h) ?_)
   cases z:B8x i wh with
   | none=>exact I.nd i h
   | some j=>exact Ie.nd j (jn z)
  ·(refine eqQ (if_neg h) ?_); exact Ie.nd _ (rk (kl hi h)).2
 ·show OR D (c.mg ce wh rs H2) (H2.get i) (if i < c.H.n then c.mu i else ce.mu (rs.getD (i - c.H.n) 0)) (if i < c.H.n then (match B8x i wh with | some j=>ce.ent j | none=>c.ent i) else ce.ent (rs.getD (i - c.H.n) 0))
  by_cases h:i < c.H.n
  ·(refine eqQ (if_pos h) ?_; refine eqQ (if_pos h) ?_)
   cases z:B8x i wh with
   | none =>
    (refine eqQ (r2 i h (B6b z)) ?_)
    exact (I.rel i h).ext ⟨by show c.H.n ≤ H2.n; (refine eqQ hn ?_); exact Nat.le_add_right _ _,fun j hj=>if_pos hj⟩
   | some j =>
    have e:=(B1g z).2
    have q:=r1 j (B1g z).1
    rw [e] at q
    exact q
  ·(refine eqQ (if_neg h) ?_; refine eqQ (if_neg h) ?_)
   have q:=r3 _ (kl hi h)
   rw [Nat.add_sub_cancel' (Nat.not_lt.mp h)] at q
   exact q
end Ab
end
section
namespace Ab
open Mine (Pr)
noncomputable def thI (θ:Nat → Int) (n W:Int) (a:Addr):Nat → Int:=fun i=>if i = 0 then n else if i = 5 then n.fdiv W else if i = 22 then (a:Int) else θ i
theorem thI_o {θ:Nat → Int} {n W:Int} {a:Addr} {i:Nat} (h0:i ≠ 0) (h5:i ≠ 5) (h2:i ≠ 22):thI θ n W a i = θ i:=by
 unfold thI; (refine eqQ (if_neg h0) ?_; refine eqQ (if_neg h5) ?_; exact eqQ (if_neg h2) rfl)
theorem VRs.imp {θ θ':Nat → Int} {c c':Cfg} {l:List AV} {vs:List Value} (h:VRs θ c l vs) (k:∀ v ∈ l,∀ u,VR θ c v u → VR θ' c' v u):VRs θ' c' l vs:=by
 induction h with
 | nil=>exact .nil
 | cons r _ ih=>exact .cons (k _ (.head _) _ r) (ih fun v hv=>k v (.tail _ hv))
theorem D2g {θ θ':Nat → Int} {c c':Cfg} {m:Nat} {vs:List Value} (hθ:∀ i,10 ≤ i → i ≤ 14 → θ' i = θ i) (hm:m ≤ 5) (h:VRs θ c (nmV m) vs):VRs θ' c' (nmV m) vs:=h.imp fun v hv u r=>by
 obtain ⟨i,hi,rfl⟩:=List.mem_map.mp hv
 have hi:=List.mem_range.mp hi
 have e:B1o θ' [.var (10 + i)] = B1o θ [.var (10 + i)]:=by
  show [(θ' (10 + i)).toNat] ++ [] = [(θ (10 + i)).toNat] ++ []
  (exact eqQ (hθ (10 + i) (Nat.le_add_right _ _) (by omega)) rfl)
 show SOk (B1o θ' [.var (10 + i)]) ∧ ∃ t,u = .str ⟨(B1o θ' [.var (10 + i)]).toArray⟩ t
 (refine eqQ e ?_); exact r
theorem C0y {v:AO} (h:F1m v = true):v = .lex [] 0 []:=by
 cases v with
 | lex y k pb=>exact B1b h fun h1 h2=>B1b h2 fun h2 h3=>by (refine eqQ (List.isEmpty_iff.mp h1) ?_; refine eqQ (Nat.eq_of_beq_eq_true h2) ?_; exact eqQ (List.isEmpty_iff.mp h3) rfl)
 | _=>exact fT h
theorem D6j {v:AO} (h:celN v = true):v = .cell none:=by
 cases v with
 | cell o=>cases o with
  | none=>rfl
  | some a=>exact fT h
 | _=>exact fT h
theorem C0c {v:AO} {i:Nat} (h:celJ v = some i):v = .cell (some (.ref i)):=by
 cases v with
 | cell o=>cases o with
  | none=>exact noP h
  | some a=>exact congrArg (fun x=>AO.cell (some x)) (B0n h)
 | _=>exact noP h
theorem C8p {v:AO} {i:Nat} (h:celI i v = true):v = .cell (some (.ref i)):=by
 cases v with
 | cell o=>cases o with
  | none=>exact fT h
  | some a =>
   refine B5t h (fun a' e h=>?_) fun _ h=>fT h
   refine B5t (show B0h (B4q a) (Nat.beq i) false = true from e ▸ h) (fun j hj h=>?_) fun _ h=>fT h
   (refine eqQ (B0n hj) ?_; exact eqQ (Nat.eq_of_beq_eq_true h) rfl)
 | _=>exact fT h
theorem B6s:∀ {l:List AV} {qs:List Nat},D8a l = some qs → l = qs.map .ref
 | [],qs,h=>by (refine eqR (oYY h) ?_); rfl
 | a :: l,qs,h=>by
  refine B0a h fun i hi h=>B0a h fun r hr h=>?_
  (refine eqR (oYY h) ?_; refine eqQ (B0n hi) ?_; refine eqQ (B6s hr) ?_); rfl
theorem C5p {v:AV} {a:IE} (h:symO v = some a):v = .sym a:=by k_extra "v" <;> first | exact congrArg AV.sym (oYY h) | exact noP h
theorem C6l {v:AV} {a:Nat} (h:opqO v = some a):v = .opq a:=by k_extra "v" <;> first | exact congrArg AV.opq (oYY h) | exact noP h
theorem B4i {x y:AV} (h:C1n x y = true):x = y:=by
 cases x with
 | int i=>exact B5t h (fun j hj h=>(C3j h) ▸ (B0u hj).symm) fun _ h=>fT h
 | sym t=>exact B5t h (fun j hj h=>(B4v _ _ h) ▸ (C5p hj).symm) fun _ h=>fT h
 | str s=>exact B5t h (fun j hj h=>(of_decide_eq_true ((B5n _ _).symm.trans h)) ▸ (B0e hj).symm) fun _ h=>fT h
 | ref n=>exact B5t h (fun j hj h=>(Nat.eq_of_beq_eq_true h) ▸ (B0n hj).symm) fun _ h=>fT h
 | pc g=>exact B5t h (fun j hj h=>by rw [B3q hj,← C4n g,← C4n j,of_decide_eq_true ((B5n _ _).symm.trans h)]) fun _ h=>fT h
 | opq n=>exact B5t h (fun j hj h=>(Nat.eq_of_beq_eq_true h) ▸ (C6l hj).symm) fun _ h=>fT h
 | _=>exact fT h
theorem B8j:∀ {x y:List AV},F0e x y = true → x = y
 | [],y,h=>(List.isEmpty_iff.mp h).symm
 | a :: x,[],h=>fT h
 | a :: x,b :: y,h=>by
  have h:@Bool.rec (fun _=>Bool) false (F0e x y) (C1n a b) = true:=h
  cases e:C1n a b with
  | false=>rw [e] at h; exact fT h
  | true=>rw [e] at h; rw [B4i e,B8j h]
theorem C1m:∀ {x y:List (Option AV)},D7b x y = true → x = y
 | [],y,h=>(List.isEmpty_iff.mp h).symm
 | a :: x,[],h=>fT h
 | a :: x,b :: y,h=>by
  have h:@Bool.rec (fun _=>Bool) false (D7b x y) (@Option.rec AV (fun _=>Bool) b.isNone (fun v=>B0h b (C1n v) false) a) = true:=h
  have e:a = b ∧ D7b x y = true:=by
   cases a with
   | none=>cases b with
    | none=>exact ⟨rfl,h⟩
    | some=>exact fT h
   | some v=>cases b with
    | none=>exact fT h
    | some w =>
     have h:@Bool.rec (fun _=>Bool) false (D7b x y) (C1n v w) = true:=h
     cases e:C1n v w with
     | false=>rw [e] at h; exact fT h
     | true=>rw [e] at h; exact ⟨congrArg some (B4i e),h⟩
  rw [e.1,C1m e.2]
theorem C6i {o:AO} {p:Nat × Nat} (h:D2d o p = true):o = .tup [.int p.1,.int p.2]:=by
 refine B5t h (fun l hl h=>B5t h (fun q hq h=>B5t h (fun a ha h=>B5t h (fun b hb h=>B1b h fun h1 h2=>?_) fun _ h=>fT h) fun _ h=>fT h) fun _ h=>fT h) fun _ h=>fT h
 (refine eqQ (B1z hl) ?_; refine eqQ (C2c hq) ?_; refine eqQ (B0u ha) ?_; refine eqQ (B0u hb) ?_; refine eqQ (C3j h1) ?_; exact eqQ (C3j h2) rfl)
theorem B3h {H:St}:∀ {qs:List Nat} {t:List (Nat × Nat)},pairsAre H qs t = true → qs.length = t.length ∧ ∀ k p,t[k]? = some p → H.get (qs.getD k 0) = .tup [.int p.1,.int p.2]
 | [],[],h=>⟨rfl,fun k p h=>noP h⟩
 | [],p :: t,h=>fT h
 | i :: qs,[],h=>fT h
 | i :: qs,p :: t,h=>B1b h fun h1 h2=>by
  (have h3:=(B3h h2).1; have h4:=(B3h h2).2)
  refine ⟨congrArg Nat.succ h3,fun k q hk=>?_⟩
  cases k with
  | zero=>(refine eqR (oYY hk) ?_); exact C6i h1
  | succ k=>exact h4 k q hk
theorem B3s {α:Type}:∀ {l:List α} {k i:Nat},i < k → nth? (l.take k) i = nth? l i
 | [],k,i,h=>by (exact eqQ List.take_nil rfl)
 | a :: l,0,i,h=>absurd h (Nat.not_lt_zero _)
 | a :: l,k + 1,0,h=>rfl
 | a :: l,k + 1,i + 1,h=>B3s (l:=l) (Nat.lt_of_succ_lt_succ h)
inductive EndI (o:Option (Flo × Fm × St)) (row:List Nat) (m:Nat) (W side:Int) (t:List (Nat × Nat)):Prop
 | mk (f:Fm) (H:St) (i:Nat) (qs:List Nat) (e:o = some (.nxt,f,H)) (e15:nth? f.loc 15 = some (some (.ref i))) (hl:H.get i = .list (qs.map .ref)) (ht:pairsAre H qs t = true) (nd:(qs ++ [i]).Nodup) (lt:∀ j ∈ qs ++ [i],6 ≤ j ∧ j < H.n)
  (g0:H.get 0 = .tab 30 1) (g1:H.get 1 = .tab 37 1) (g2:H.get 2 = .list (nmV m)) (g3:H.get 3 = .lex [] 0 []) (g4:H.get 4 = .cell (some (.ref 3))) (g5:isCel (H.get 5) = true) (tk:f.loc.take 11 = (fmI row W side).loc.take 11) (hd:f.dep = 40)
theorem D5y {o:Option (Flo × Fm × St)} {row:List Nat} {m:Nat} {W side:Int} {t:List (Nat × Nat)} (h:(endI o row m W side t).isSome = true):EndI o row m W side t:=by
 k_extra "fG"; obtain ⟨z,h⟩:=Option.isSome_iff_exists.mp h
 k_extra "fG"; refine B0a h fun x hx h=>B0a h fun v ev h=>B0a h fun i hi h=>B0a h fun l hl h=>B0a h fun qs hq h=>gdP h fun h1 h=>gdP h fun h2 h=>gdP h fun h3 h=>gdP h fun h4 h=>gdP h fun h5 h=>gdP h fun h6 h=>gdP h fun h7 h=>gdP h fun h8 h=>gdP h fun h9 h=>?_
 refine B1b h2 fun d1 d2=>B1b h3 fun t1 t2=>⟨x.1,x.2,i,qs,B1t hx,C9f ev (B0n hi),by (refine eqQ (B0w hl) ?_; exact eqQ (B6s hq) rfl),h1,B2h d1,fun j hj=>B1b (List.all_eq_true.mp d2 j hj) fun a b=>⟨nYY a,nYY b⟩,tab1?_ok t1,tab1?_ok t2,?_,C0y h5,C8p h6,h7,C1m h8,Nat.eq_of_beq_eq_true h9⟩
 refine B5t h4 (fun l hl h=>?_) fun _ h=>fT h
 (refine eqQ (B0w hl) ?_; exact eqR (B8j h) rfl)
theorem C2l {θ θ':Nat → Int} {ce c2:Cfg} {n:Nat}:∀ {qs:List Nat} {s:Nat} {us:List Value},VRs θ' ce (qs.map .ref) us → (∀ k,k < qs.length → n + (s + k) < c2.H.n ∧ c2.mu (n + (s + k)) = ce.mu (qs.getD k 0)) → VRs θ c2 ((List.range' s qs.length).map fun k=>.ref (n + k)) us
 | [],s,us,h,hk=>by refine vN h ?_; exact .nil
 | q :: qs,s,us,h,hk=>by
  refine vC h fun _ _ r rs=>?_
  ·have k0:=hk 0 (Nat.succ_pos _)
   refine .cons ⟨k0.1,?_⟩ (C2l (s:=s + 1) rs fun k h=>?_)
   ·(refine eqQ r.2 ?_); exact congrArg Value.ref k0.2.symm
   ·have:=hk (k + 1) (Nat.succ_lt_succ h)
    (refine eqQ (show s + 1 + k = s + (k + 1) by omega) ?_)
    exact this
end Ab
end
section
namespace Ab
open Mine (Pr)
inductive MemK (row:List Nat) (m:Nat) (W r:Int) (f:Fm) (H:St) (f':Fm) (H':St):Prop
 | mk (i7 i10 il i0 i1:Nat) (X:IE) (v11:AV) (side:Int) (p:Int × Int) (e4:nth? f.loc 4 = some (some (.str row))) (e6:nth? f.loc 6 = some (some (.pc [.blob 21]))) (e7:nth? f.loc 7 = some (some (.ref i7))) (e8:nth? f.loc 8 = some (some (.int W))) (e10:nth? f.loc 10 = some (some (.ref i10)))
  (e11:nth? f.loc 11 = some (some v11)) (eX:tie v11 = some X) (e12:nth? f.loc 12 = some (some (.int side))) (hp:nrm W r X = some p) (p1:p.1.fmod W = 0) (p2:(p.1.fdiv W).natAbs ≤ 1) (p3:(p.2.fdiv W).natAbs ≤ 100) (hk:okK side W (p.2.fmod W).toNat = true)
  (g7:H.get i7 = .list (nmV m)) (g0:H.get i0 = .cell none) (g1:H.get i1 = .cell (some (.ref il))) (gl:H.get il = .lex [] 0 []) (t1:H.get 1 = .tab 30 1) (t2:H.get 2 = .tab 37 1) (nd:[1,2,i7,il,i1,i0].Nodup) (lt:∀ j ∈ [1,2,i7,il,i1,i0],j < H.n) (ec:f.cel = [i0,i1]) (hd:f.dep = 40) (h10:i10 < H.n)
  (ef:f' = ⟨[Option.none,Option.none,Option.none,Option.none,some (.str row),Option.none,some (.pc [.blob 21]),some (.ref i7),some (.int W),Option.none,some (.ref i10),Option.none,Option.none,Option.none,Option.none,some (.ref (H.n + (tabOf row (p.2.fmod W).toNat).length)),Option.none,Option.none],f.cel,40⟩)
  (eH:H' = mkSa H (tabAO (tabOf row (p.2.fmod W).toNat) H.n))
theorem D5b {row:List Nat} {m:Nat} {W r:Int} {f f':Fm} {H H':St} (h:D0e row m W r f H = some (f',H')):MemK row m W r f H f' H':=by
 k_extra "fG"; refine B0a h fun v4 e4 h=>gdP h fun q4 h=>B0a h fun v6 e6 h=>gdP h fun q6 h=>B0a h fun v7 e7 h=>B0a h fun i7 r7 h=>B0a h fun l7 g7 h=>gdP h fun q7 h=>B0a h fun v8 e8 h=>gdP h fun q8 h=>B0a h fun v10 e10 h=>B0a h fun i10 r10 h=>B0a h fun v11 e11 h=>B0a h fun X eX h=>B0a h fun v12 e12 h=>B0a h fun side r12 h=>B0a h fun p hp h=>gdP h fun k1 h=>gdP h fun k2 h=>B0a h fun i0 c0 h=>B0a h fun i1 c1 h=>gdP h fun kc h=>gdP h fun k3 h=>B0a h fun il gl h=>gdP h fun k4 h=>gdP h fun k5 h=>gdP h fun k6 h=>gdP h fun k7 h=>B0r h fun z1 z2=>?_
 refine F1x k1 fun a1 a2 a3=>B1b k5 fun b1 b2=>B1b k6 fun d1 d2=>B1b k7 fun x1 x2=>B1b b1 fun _ b1=>B1b b2 fun _ b2=>?_
 exact ⟨i7,i10,il,i0,i1,X,v11,side,p,C9f e4 (B4i q4),C9f e6 (B4i q6),C9f e7 (B0n r7),C9f e8 (B4i q8),C9f e10 (B0n r10),B1h e11,eX,C9f e12 (B0u r12),hp,of_decide_eq_true a1,nYY a2,nYY a3,k2,
  by (refine eqQ (B0w g7) ?_; exact eqQ (B8j q7) rfl),D6j k3,C0c gl,C0y k4,tab1?_ok b1,tab1?_ok b2,B2h d1,fun j hj=>nYY (List.all_eq_true.mp d2 j hj),of_decide_eq_true kc,Nat.eq_of_beq_eq_true x1,nYY x2,z1,z2⟩
section
variable {w:World} {D:Gd} {A:Around} {env:Env} {ly:Ly} {c:Cfg} {f f':Fm} {H':St} {row:List Nat} {m:Nat} {W r:Int} {y:List Nat}
theorem D5a (AF:AfOk D.θ W r) (q5:(D.θ 5).natAbs ≤ 200) (hW:0 < W) {X:IE} {p:Int × Int} (hp:nrm W r X = some p) (p1:p.1.fmod W = 0) (p2:(p.1.fdiv W).natAbs ≤ 1) (p3:(p.2.fdiv W).natAbs ≤ 100) (a:Addr) :
  AfOk (thI D.θ (X.sem D.θ) W a) W ((p.2.fmod W).toNat:Nat) ∧ (((p.2.fmod W).toNat:Nat):Int) < W:=by
 have er:(((p.2.fmod W).toNat:Nat):Int) = p.2.fmod W:=Int.toNat_of_nonneg (Int.fmod_nonneg_of_pos _ hW)
 have ea:=B3t AF.eq hp
 have e1:X.sem D.θ = p.2 + W * (p.1.fdiv W * D.θ 5):=ea.trans (B7y p1 p.2)
 have e2:(X.sem D.θ).fmod W = p.2.fmod W:=by rw [e1,Int.add_mul_fmod_self_left]
 have e3:(X.sem D.θ).fdiv W = p.2.fdiv W + p.1.fdiv W * D.θ 5:=by (refine eqQ e1 ?_; exact eqQ (Int.add_mul_fdiv_left _ _ (Int.ne_of_gt hW)) rfl)
 refine ⟨⟨?_,?_⟩,by (refine eqQ er ?_); exact Int.fmod_lt_of_pos _ hW⟩
 ·show X.sem D.θ = W * (X.sem D.θ).fdiv W + _
  rw [er,← e2,Int.mul_fdiv_add_fmod]
 ·show ((X.sem D.θ).fdiv W).natAbs ≤ 512
  (refine eqQ e3 ?_)
  have h1:=Int.natAbs_add_le (p.2.fdiv W) (p.1.fdiv W * D.θ 5)
  rw [Int.natAbs_mul] at h1
  have h2:(p.1.fdiv W).natAbs * (D.θ 5).natAbs ≤ 1 * 200:=Nat.mul_le_mul p2 q5
  omega
noncomputable abbrev Gd.th (D:Gd) (θ:Nat → Int):Gd:=⟨θ,D.LX,D.b0,D.P⟩
theorem D0d {θ:Nat → Int} {i7 il i0 i1:Nat} (hθ:∀ i,10 ≤ i → i ≤ 14 → θ i = D.θ i) (hm:m ≤ 5) (g7:c.H.get i7 = .list (nmV m)) (g0:c.H.get i0 = .cell none) (g1:c.H.get i1 = .cell (some (.ref il))) (gl:c.H.get il = .lex [] 0 []) (t1:c.H.get 1 = .tab 30 1) (t2:c.H.get 2 = .tab 37 1)
  (nd:[1,2,i7,il,i1,i0].Nodup) (lt:∀ j ∈ [1,2,i7,il,i1,i0],j < c.H.n) (I:Inv D c):Inv (D.th θ) (c.rc [1,2,i7,il,i1,i0] (osI m)):=by
 have L:∀ {j},j ∈ [1,2,i7,il,i1,i0] → j < c.H.n:=fun h=>lt _ h
 refine D1z I rfl rfl nd lt fun j o h=>(RelL.get (R:=fun o i=>OR (D.th θ) (c.rc [1,2,i7,il,i1,i0] (osI m)) o (c.mu i) (c.ent i)) (os:=osI m) (wh:=[1,2,i7,il,i1,i0]) ?_ h)
 refine .cons (I.at' t1 (L (.head _))) (.cons (I.at' t2 (L (.tail _ (.head _)))) (.cons ?_ (.cons ?_ (.cons ?_ (.cons (B1x (o:=.cell none) rfl (I.at' g0 (L (.tail _ (.tail _ (.tail _ (.tail _ (.tail _ (.head _)))))))) ) .nil)))))
 ·k_extra "fG"; obtain ⟨hl,vs,k,e,rs⟩:=I.at' g7 (L (.tail _ (.tail _ (.head _))))
  exact ⟨hl,vs,k,e,D2g hθ hm rs⟩
 ·k_extra "fG"; obtain ⟨h1,h2,h3,vs,rs,hx⟩:=I.at' gl (L (.tail _ (.tail _ (.tail _ (.head _)))))
  cases rs
  exact ⟨h1,h2,h3,[],.nil,hx⟩
 ·exact B8q (I.at' g1 (L (.tail _ (.tail _ (.tail _ (.tail _ (.head _))))))) (B5o rfl rfl)
theorem D4z {i7 i10 il i0 i1:Nat} {X:IE} {v11:AV} {side:Int} (F:FR D c env ly f) (e4:nth? f.loc 4 = some (some (.str row))) (e6:nth? f.loc 6 = some (some (.pc [.blob 21]))) (e7:nth? f.loc 7 = some (some (.ref i7))) (e8:nth? f.loc 8 = some (some (.int W))) (e10:nth? f.loc 10 = some (some (.ref i10)))
  (e11:nth? f.loc 11 = some (some v11)) (eX:tie v11 = some X) (e12:nth? f.loc 12 = some (some (.int side))) (lt:∀ j ∈ [1,2,i7,il,i1,i0],j < c.H.n) (ec:f.cel = [i0,i1]) :
  FR (D.th (thI D.θ (X.sem D.θ) W (c.mu i10))) (c.rc [1,2,i7,il,i1,i0] (osI m)) env ly (fmI row W side):=by
 have z:LocL (fun i v=>∃ v',nth? f.loc i = some (some v') ∧ ∀ u,VR D.θ c v' u → VR (thI D.θ (X.sem D.θ) W (c.mu i10)) (c.rc [1,2,i7,il,i1,i0] (osI m)) v u) 0 (fmI row W side).loc :=
  (.no (.no (.no (.no (.yes ⟨_,e4,fun u h=>h⟩ (.no (.yes ⟨_,e6,fun u h=>h⟩ (.yes ⟨_,e7,B5o (D':=D.th (thI D.θ (X.sem D.θ) W (c.mu i10))) rfl rfl⟩ (.yes ⟨_,e8,fun u h=>h⟩ (.no (.yes ⟨_,e10,fun u h=>h.2⟩ (.yes ⟨_,e11,fun u h=>show ∃ t,u = Value.int (X.sem D.θ) t from B2e eX h⟩ (.yes ⟨_,e12,fun u h=>h⟩ (.no (.no (.no (.no (.no .nil))))))))))))))))))
 refine D8b F rfl rfl lt (fun i v h=>by
  have q:=z.get h
  rw [Nat.zero_add] at q
  exact q) fun j k h=>?_
 (refine eqQ ec ?_)
 match j,h with
 | 0,h=>(refine eqR (oYY h) ?_); exact ⟨(by decide:5 < 6),rfl⟩
 | 1,h=>(refine eqR (oYY h) ?_); exact ⟨(by decide:4 < 6),rfl⟩
 | j + 2,h=>exact noP (show (Option.none:Option Nat) = some k from h)
theorem D4y {n:Nat} {p1:List Stmt} (g:Gr w D) (hP:D.P = w.params) (hL:D.LX = LXe w y) (HC1:CodeHd D.b0 34 30) (HC2:CodeHd D.b0 41 37) (AF:AfOk D.θ W r) (q5:(D.θ 5).natAbs ≤ 200) (N:NmOk D.θ) (hW:0 < W) (hm:m ≤ 5)
  (hT:∀ side (k:Nat),okK side W k = true → (k:Int) < W → C8m row m W k side = true) (hc:cSs g1 n ly p1 = some stI) (h:D0e row m W r f c.H = some (f',H')) (I:Inv D c) (F:FR D c env ly f) (K:AOk D A f.dep c env) :
  wpAny (model Pr w) A (execs p1 env) (XP D c env ly f .nxt f' H') Nev c.s:=by
 k_extra "fG"; obtain ⟨i7,i10,il,i0,i1,X,v11,side,p,e4,e6,e7,e8,e10,e11,eX,e12,hp,h1,h2,h3,hk,g7,g0,g1,gl,t1,t2,nd,lt,ec,hd,h10,ef,eH⟩:=D5b h
 obtain ⟨AF',hr⟩:=D5a AF q5 hW hp h1 h2 h3 (c.mu i10)
 have hθ:∀ i,10 ≤ i → i ≤ 14 → thI D.θ (X.sem D.θ) W (c.mu i10) i = D.θ i:=fun i a b=>thI_o (by omega) (by omega) (by omega)
 have N':NmOk (thI D.θ (X.sem D.θ) W (c.mu i10)):=⟨fun i j a b a' b' q=>by simp only [hθ i a b,hθ j a' b']; exact N.ne i j a b a' b' q,fun i a b=>by (refine eqQ (hθ i a b) ?_); exact N.pos i a b⟩
 have W':=wdB (D:=D.th (thI D.θ (X.sem D.θ) W (c.mu i10))) ⟨g.top,g.X⟩ hP hL HC1 HC2 AF' N'
 have I0:=D0d (θ:=thI D.θ (X.sem D.θ) W (c.mu i10)) hθ hm g7 g0 g1 gl t1 t2 nd lt I
 have F0:=D4z (m:=m) F e4 e6 e7 e8 e10 e11 eX e12 lt ec
 replace K:=hd ▸ K
 have K0:AOk (D.th (thI D.θ (X.sem D.θ) W (c.mu i10))) A 40 (c.rc [1,2,i7,il,i1,i0] (osI m)) env:=D2a K rfl rfl lt
 obtain ⟨f1,H1,pi,qs,er,e15,hl,ht,ndq,ltq,q0,q1,q2,q3,q4,q5',tk,hd1⟩:=D5y (hT side _ hk hr)
 refine wpAny_mono ((B2m W' 100000).ex ly env (fmI row W side) (c.rc [1,2,i7,il,i1,i0] (osI m)) A n p1 stI .nxt f1 H1 hc er I0 F0 K0) (fun fw s1 hq=>?_) Mine.idE
 k_extra "fG"; (clear er; obtain ⟨_,ce,rfl,rfl,Ie,Se,F1,hfw⟩:=hq)
 obtain ⟨hlen,hpt⟩:=B3h ht
 have lt':∀ {j},j ∈ [1,2,i7,il,i1,i0] → j < c.H.n:=fun h=>lt _ h
 have hn:H'.n = c.H.n + (qs ++ [pi]).length:=by
  simp only [eH,C6r]
  unfold tabAO
  simp only [List.length_append,List.length_map,List.length_append,hlen]; rfl
 have old:∀ i,i < c.H.n → H'.get i = c.H.get i:=fun i hi=>by rw [eH,B5f,if_pos hi]
 have new:∀ k o,(tabAO (tabOf row (p.2.fmod W).toNat) c.H.n)[k]? = some o → H'.get (c.H.n + k) = o:=fun k o e=>by
  rw [eH,B5f,if_neg (Nat.not_lt.mpr (Nat.le_add_right _ _)),Nat.add_sub_cancel_left,e]
 have em:∀ {j},j < 6 → ce.mu j = c.mu ([1,2,i7,il,i1,i0].getD j 0):=fun h=>Se.mu _ h
 have cl:∀ {j},j < 6 → j < ce.H.n:=fun h=>Nat.lt_of_lt_of_le h Se.n
 have R:∀ {j o},j < 6 → ce.H.get j = o → OR (D.th (thI D.θ (X.sem D.θ) W (c.mu i10))) ce o (c.mu ([1,2,i7,il,i1,i0].getD j 0)) (ce.ent j):=fun hj e=>by
  (refine eqR (em hj) ?_); exact Ie.at' e (cl hj)
 have mo:∀ {i},i < c.H.n → (c.mg ce [1,2,i7,il,i1,i0] (qs ++ [pi]) H').mu i = c.mu i:=fun h=>if_pos h
 have mn:∀ k,(c.mg ce [1,2,i7,il,i1,i0] (qs ++ [pi]) H').mu (c.H.n + k) = ce.mu ((qs ++ [pi]).getD k 0):=fun k=>by
  show (if c.H.n + k < c.H.n then c.mu (c.H.n + k) else ce.mu ((qs ++ [pi]).getD (c.H.n + k - c.H.n) 0)) = _
  rw [if_neg (Nat.not_lt.mpr (Nat.le_add_right _ _)),Nat.add_sub_cancel_left]
 have nn:∀ {i},i < c.H.n → i < H'.n:=fun h=>by (refine eqQ hn ?_); exact Nat.lt_of_lt_of_le h (Nat.le_add_right _ _)
 have ql:∀ {k},k < qs.length → (qs ++ [pi]).getD k 0 = qs.getD k 0:=fun h=>by
  (refine eqQ (List.getD_eq_getElem?_getD) ?_; refine eqQ (List.getElem?_append_left h) ?_; exact eqR (List.getD_eq_getElem?_getD) rfl)
 have qe:(qs ++ [pi]).getD qs.length 0 = pi:=by
  rw [List.getD_eq_getElem?_getD,List.getElem?_append_right (Nat.le_refl _),Nat.sub_self]; rfl
 have ql2:∀ {k},k < qs.length → qs.getD k 0 < ce.H.n:=fun {k} h=>by
  have:=(ltq _ (B2t (l:=qs ++ [pi]) (j:=k) (by (refine eqQ List.length_append ?_); exact Nat.lt_of_lt_of_le h (Nat.le_add_right _ _)))).2
  rw [ql h] at this; exact this
 have lp:pi < ce.H.n:=(ltq pi (List.mem_append_right _ (.head _))).2
 obtain ⟨I2,S2⟩:=C9t (X:=some env.locals) (H2:=H') I (D':=D.th (thI D.θ (X.sem D.θ) W (c.mu i10))) rfl rfl nd lt Ie Se K.unt (fun L z=>oYY z ▸ F.unt) ndq ltq hn (fun j hj=>by
  match j,hj with
  | 0,_=>(show OR D (c.mg ce [1,2,i7,il,i1,i0] (qs ++ [pi]) H') (H'.get 1) (c.mu 1) (ce.ent 0)); (refine eqQ (old _ (lt' (.head _))) ?_; refine eqQ t1 ?_); exact R (j:=0) (by decide) q0
  | 1,_=>(show OR D (c.mg ce [1,2,i7,il,i1,i0] (qs ++ [pi]) H') (H'.get 2) (c.mu 2) (ce.ent 1)); (refine eqQ (old _ (lt' (.tail _ (.head _)))) ?_; refine eqQ t2 ?_); exact R (j:=1) (by decide) q1
  | 2,_ =>
   (show OR D (c.mg ce [1,2,i7,il,i1,i0] (qs ++ [pi]) H') (H'.get i7) (c.mu i7) (ce.ent 2)); (refine eqQ (old _ (lt' (.tail _ (.tail _ (.head _))))) ?_; refine eqQ g7 ?_)
   k_extra "fG"; obtain ⟨hl,vs,k,e,rs⟩:=R (j:=2) (by decide) q2
   exact ⟨hl,vs,k,e,D2g (fun i a b=>(hθ i a b).symm) hm rs⟩
  | 3,_ =>
   (show OR D (c.mg ce [1,2,i7,il,i1,i0] (qs ++ [pi]) H') (H'.get il) (c.mu il) (ce.ent 3)); (refine eqQ (old _ (lt' (.tail _ (.tail _ (.tail _ (.head _)))))) ?_; refine eqQ gl ?_)
   k_extra "fG"; obtain ⟨a1,a2,a3,vs,rs,hx⟩:=R (j:=3) (by decide) q3
   k_extra "fG"; cases rs
   exact ⟨a1,a2,a3,[],.nil,hx⟩
  | 4,_ =>
   (show OR D (c.mg ce [1,2,i7,il,i1,i0] (qs ++ [pi]) H') (H'.get i1) (c.mu i1) (ce.ent 4)); (refine eqQ (old _ (lt' (.tail _ (.tail _ (.tail _ (.tail _ (.head _))))))) ?_; refine eqQ g1 ?_)
   exact B8q (R (j:=4) (by decide) q4) fun u hu=>⟨nn (lt' (.tail _ (.tail _ (.tail _ (.head _))))),by (refine eqQ hu.2 ?_; refine eqQ (em (by decide)) ?_; refine eqQ (mo (lt' (.tail _ (.tail _ (.tail _ (.head _)))))) ?_); rfl⟩
  | 5,_ =>
   (show OR D (c.mg ce [1,2,i7,il,i1,i0] (qs ++ [pi]) H') (H'.get i0) (c.mu i0) (ce.ent 5)); (refine eqQ (old _ (lt' (.tail _ (.tail _ (.tail _ (.tail _ (.tail _ (.head _)))))))) ?_; refine eqQ g0 ?_)
   exact B1x q5' (R (j:=5) (by decide) rfl)
  | j + 6,hj=>exact absurd hj (Nat.not_lt.mpr (Nat.le_add_left 6 j))) (fun i hi _=>old i hi) (fun k hk=>by
  by_cases z:k < qs.length
  ·have z':k < (tabOf row (p.2.fmod W).toNat).length:=hlen ▸ z
   have e:=List.getElem?_eq_getElem z'
   rw [new k (.tup [.int ((tabOf row (p.2.fmod W).toNat)[k]).1,.int ((tabOf row (p.2.fmod W).toNat)[k]).2]) (by
    unfold tabAO
    rw [List.getElem?_append_left (by rw [List.length_map]; exact z'),List.getElem?_map,e]; rfl),ql z]
   have r:=Ie.at' (hpt k _ e) (ql2 z)
   k_extra "fG"; obtain ⟨hl,vs,kk,e,rs⟩:=r
   exact ⟨hl,vs,kk,e,rs.imp fun v hv u r=>by
    rcases List.mem_cons.mp hv with rfl | hv
    ·exact r
    ·rw [List.mem_singleton.mp hv] at r ⊢; exact r⟩
  ·have hk:k = qs.length:=by
    k_extra "fG"; have hk:k < (qs ++ [pi]).length:=hk
    rw [List.length_append] at hk
    k_extra "fG"; have hk:k < qs.length + 1:=hk
    omega
   (clear z; refine eqQ hk ?_)
   rw [qe,new qs.length (.list ((List.range (tabOf row (p.2.fmod W).toNat).length).map fun k=>.ref (c.H.n + k))) (by
    unfold tabAO
    rw [List.getElem?_append_right (by rw [List.length_map,hlen]; exact Nat.le_refl _),List.length_map,hlen,Nat.sub_self]; rfl)]
   k_extra "fG"; obtain ⟨hl2,vs,kk,e,rs⟩:=Ie.at' hl lp
   refine ⟨by rw [List.length_map,List.length_range,← hlen]; rw [List.length_map] at hl2; exact hl2,vs,kk,e,?_⟩
   (refine eqQ List.range_eq_range' ?_; refine eqR hlen ?_)
   refine C2l rs fun k hk=>?_
   rw [Nat.zero_add]
   exact ⟨by show c.H.n + k < H'.n; (refine eqQ hn ?_; refine eqQ List.length_append ?_); exact Nat.add_lt_add_left (Nat.lt_of_lt_of_le hk (Nat.le_add_right _ _)) _,by rw [mn,ql hk]⟩)
 have tk':∀ {i v},i < 11 → nth? (fmI row W side).loc i = some (some v) → nth? f1.loc i = some (some v):=fun hi e=>by
  (refine eqR (B3s hi) ?_; refine eqQ tk ?_; refine eqQ (B3s hi) ?_); exact e
 have z:LocL (fun i v=>∃ v',nth? f1.loc i = some (some v') ∧ ∀ u,VR (thI D.θ (X.sem D.θ) W (c.mu i10)) ce v' u → VR D.θ (c.mg ce [1,2,i7,il,i1,i0] (qs ++ [pi]) H') v u) 0 f'.loc:=by
  simp only [ef]
  refine .no (.no (.no (.no (.yes ⟨_,tk' (i:=4) (by decide) rfl,fun u h=>h⟩ (.no (.yes ⟨_,tk' (i:=6) (by decide) rfl,fun u h=>h⟩ (.yes ⟨_,tk' (i:=7) (by decide) rfl,fun u h=>?_⟩ (.yes ⟨_,tk' (i:=8) (by decide) rfl,fun u h=>h⟩ (.no (.yes ⟨_,tk' (i:=10) (by decide) rfl,fun u h=>?_⟩ (.no (.no (.no (.no (.yes ⟨_,e15,fun u h=>?_⟩ (.no (.no .nil)))))))))))))))))
  ·exact ⟨nn (lt' (.tail _ (.tail _ (.head _)))),by (refine eqQ h.2 ?_; refine eqQ (em (by decide)) ?_; refine eqQ (mo (lt' (.tail _ (.tail _ (.head _))))) ?_); rfl⟩
  ·exact ⟨nn h10,by (refine eqQ (mo h10) ?_); exact h⟩
  ·refine ⟨by show _ < H'.n; (refine eqQ hn ?_; refine eqQ List.length_append ?_; refine eqQ hlen ?_); exact Nat.add_lt_add_left (Nat.lt_succ_self _) _,?_⟩
   rw [← hlen,mn,qe]; exact h.2
 refine ⟨by simp only [ef,hd],c.mg ce [1,2,i7,il,i1,i0] (qs ++ [pi]) H',rfl,rfl,I2,S2,FR.over F S2 F1 rfl (by (exact eqQ ef rfl)) (fun i v h=>by
  have q:=z.get h
  rw [Nat.zero_add] at q
  exact q),hfw⟩
end
end Ab
end
section
set_option backward.match.sparseCases false
namespace Ab
open Mine (Pr)
theorem C8q {g:G} {ly:Ly} {B:List S}:∀ (A:List S) (n:Nat) (ss:List Stmt),cSs g n ly ss = some (A ++ B) → ∃ p1 p2 n2,ss = p1 ++ p2 ∧ cSs g n ly p1 = some A ∧ cSs g n2 ly p2 = some B
 | [],0,ss,h=>noP h
 | [],n + 1,ss,h=>⟨[],ss,n + 1,rfl,rfl,h⟩
 | a :: A,0,ss,h=>noP h
 | a :: A,n + 1,[],h=>by
  have h:some ([]:List S) = some (a :: (A ++ B)):=h
  exact nomatch oYY h
 | a :: A,n + 1,s :: r,h=>by
  k_extra "fG"; have h : (do some ((← cS g n ly s) :: (← cSs g n ly r))) = some (a :: (A ++ B)) := h
  refine B0a h fun x hx h=>B0a h fun l hl h=>?_
  have h:=oYY h
  (refine x3a3 (C8q A n r (hl.trans (congrArg some (List.cons.inj h).2))) fun p1 p2 n2 e1 e2 e3=>?_)
  refine ⟨s :: p1,p2,n2,congrArg (s :: ·) e1,?_,e3⟩
  show (do some ((← cS g n ly s) :: (← cSs g n ly p1))) = _
  (refine eqQ hx ?_; refine eqQ e2 ?_; refine eqQ ((List.cons.inj h).1) ?_); rfl
section
variable {w:World} {D:Gd} {A:Around} {env:Env} {ly:Ly} {c:Cfg} {f f':Fm} {row:List Nat} {m:Nat} {W r:Int} {y:List Nat}
theorem XP.seq {f1:Fm} {H1 H:St} {fl:Flo} {s1:Shared} {fw0:Flow} (F:FR D c env ly f) (x:XP D c env ly f .nxt f1 H1 fw0 s1) {ss:List Stmt} (k:∀ c':Cfg,c'.H = H1 → c'.s = s1 → f1.dep = f.dep → Inv D c' → FR D c' env ly f1 → Stp (some env.locals) c c' → wpAny (model Pr w) A (execs ss env) (XP D c' env ly f1 fl f' H) Nev s1) :
  (match (generalizing:=false) fw0 with | .next=>wpAny (model Pr w) A (execs ss env) (XP D c env ly f fl f' H) Nev s1 | fw=>XP D c env ly f fl f' H fw s1):=by
 obtain ⟨hd,c1,hs,hH,I1,S1,F1,hfw⟩:=x
 have hfw:fw0 = .next:=hfw
 refine eqQ hfw ?_
 refine wpAny_mono (k c1 hH hs hd I1 F1 S1) (fun fw s hq=>?_) Mine.idE
 obtain ⟨hd2,c2,hs2,hH2,I2,S2,F2,hf⟩:=hq
 exact ⟨hd2.trans hd,c2,hs2,hH2,I2,S1.trans S2 I1 F.nsx,F2,hf⟩
noncomputable def rM (row:List Nat) (m:Nat) (W r:Int) (r0:Rn):Rn:=⟨r0.ev,r0.ts,fun _ f H=>B0h (D0e row m W r f H) (fun p=>r0.ex (bodyF.drop 7) p.1 p.2) Option.none,r0.ca⟩
theorem D0f {r0:Rn} (hr:RnOk Pr w D g1 r0) (g:Gr w D) (hP:D.P = w.params) (hL:D.LX = LXe w y) (HC1:CodeHd D.b0 34 30) (HC2:CodeHd D.b0 41 37) (AF:AfOk D.θ W r) (q5:(D.θ 5).natAbs ≤ 200) (N:NmOk D.θ) (hW:0 < W) (hm:m ≤ 5)
  (hT:∀ side (k:Nat),okK side W k = true → (k:Int) < W → C8m row m W k side = true):ExAt Pr w D g1 (rM row m W r r0) bodyF:=by
 intro ly env f c A n ss fl f' H hc h I F K
 k_extra "fG"; refine B1i (show B0h (D0e row m W r f c.H) (fun p=>r0.ex (bodyF.drop 7) p.1 p.2) Option.none = some (fl,f',H) from h) (fun p hp h2=>?_) fun _ h=>noP h
 obtain ⟨p1,p2,n2,rfl,c1,c2⟩:=C8q (g:=g1) (ly:=ly) (B:=bodyF.drop 7) (bodyF.take 7) n ss (by rw [List.take_append_drop]; exact hc)
 refine B1s (wpAny_mono (D4y g hP hL HC1 HC2 AF q5 N hW hm hT c1 hp I F K) (fun fw s1 hq=>?_) Mine.idE)
 refine XP.seq F hq fun c' hH hs hd I' F' S'=>?_
 (clear hq; subst hs)
 exact hr.ex ly env p.1 c' A n2 p2 _ fl f' H c2 (hH ▸ h2) I' F' (hd ▸ K.step S' (.inr rfl))
end
end Ab
end
section
set_option backward.match.sparseCases false
set_option maxRecDepth 1000000
namespace Ab
noncomputable def lyL:Ly:=C5g (fnD "law").2.2.names
noncomputable def bodyL:List Stmt:=(fnD "law").2.1
noncomputable def B4g (a k:Nat):AO → Bool
 | .tab b j=>Nat.beq b a && Nat.beq j k
 | _=>false
theorem B1e {a k:Nat} {v:AO} (h:B4g a k v = true):v = .tab a k:=by
 cases v with
 | tab b j =>
  have h:=(Bool.and_eq_true _ _).mp h
  rw [Nat.eq_of_beq_eq_true h.1,Nat.eq_of_beq_eq_true h.2]
 | _=>exact absurd h Bool.false_ne_true
noncomputable def stB1:List S:=(fl179.body.drop 9).take 3
noncomputable def stB3:List S:=(fl179.body.drop 13).take 1
noncomputable def frS:S:=fl179.body.getD 12 (.ret (.lit .none))
noncomputable def frX (s:S):Tg × Nat × E:=@S.casesOn (fun _=>Tg × Nat × E) s (fun e=>(.one (.loc 0),0,e)) (fun _ e=>(.one (.loc 0),0,e)) (fun _ e=>(.one (.loc 0),0,e)) (fun _ _ e=>(.one (.loc 0),0,e)) (fun c _ _=>(.one (.loc 0),0,c)) (fun t k it _=>(t,k,it)) (fun e=>(.one (.loc 0),0,e)) (fun _ _ _ e=>(.one (.loc 0),0,e))
noncomputable def cxM (W r:Int):Cx:=⟨[(152,D9o)],[],D0t W r,F0p W r⟩
noncomputable def r0M (W r:Int):Rn:=run (cxM W r) 100000
noncomputable def osB (m:Nat):List AO:=[.tab 121 2,.tab 30 1,.tab 37 1,.list (nmV m),.lex [] 0 [],.cell none,.cell (some (.ref 4))]
noncomputable def fmB (row:List Nat):Fm:=⟨[none,none,some (.sym (.var 0)),none,some (.str row),none,some (.pc [.blob 21]),some (.ref 3),none,none,none,none,none,none,none,none,none,none],[5,6],40⟩
noncomputable def runB1 (row:List Nat) (m:Nat) (W r:Int):Option (Fm × St):=D2f ((r0M W r).ex stB1 (fmB row) (mkS (osB m)))
noncomputable def runB2 (row : List Nat) (m : Nat) (W r : Int) (f : Fm) (H : St) : Option (Fm × St) := do
 let s ← C4j (r0M W r) (frX frS).2.1 (frX frS).2.2 f H
 D2f (frT (rM row m W r (r0M W r)) (frX frS).1 (frX frS).2.1 bodyF s.1 (D5k s.1 s.2 + 1) 0 f s.2)
noncomputable def endB (f:Fm) (H:St):Bool:=B4g 121 2 (H.get 0) && (B4g 30 1 (H.get 1) && (B4g 37 1 (H.get 2) && (F1m (H.get 4) && (isCel (H.get 5) && (celI 4 (H.get 6) && (B0h (B4t f 6) (fun v=>C1n v (.pc [.blob 21])) false && (decide (f.cel = [5,6]) && (Nat.blt 6 H.n && Nat.beq f.dep 40))))))))
noncomputable def runB (row : List Nat) (m : Nat) (W r : Int) : Option (Fm × St) := do
 let p ← runB1 row m W r
 let q ← runB2 row m W r p.1 p.2
 D2f ((r0M W r).ex stB3 q.1 q.2)
noncomputable def F1s (row:List Nat) (m:Nat) (W r:Int):Bool:=B0h (runB row m W r) (fun p=>endB p.1 p.2) false
end Ab
end
section
set_option backward.match.sparseCases false
set_option maxRecDepth 1000000
namespace Ab
open Mine (Pr)
theorem D4b:cSs g1 60 lyL ((bodyL.drop 9).take 3) = some stB1:=by rfl
theorem D4a:cSs g1 60 lyL ((bodyL.drop 13).take 1) = some stB3:=by rfl
theorem D5q:∃ target iter body pos,(bodyL.drop 12).take 1 = [.For target iter body [] pos] ∧ F0o g1 lyL (cE g1 60 lyL) iter = some (frX frS).2 ∧ cTg lyL target = some (frX frS).1 ∧ cSs g1 60 lyL body = some bodyF:=⟨_,_,_,_,rfl,by rfl,by rfl,by rfl⟩
theorem bdB:(bodyL.drop 9).take 5 = (bodyL.drop 9).take 3 ++ ((bodyL.drop 12).take 1 ++ (bodyL.drop 13).take 1):=rfl
section
variable {w:World} {D:Gd} {A:Around} {env:Env} {c:Cfg} {row:List Nat} {m:Nat} {W r:Int} {y:List Nat}
theorem wdM (g:Gr w D) (hP:D.P = w.params) (hL:D.LX = LXe w y) (AF:AfOk D.θ W r) (N:NmOk D.θ):Wd Pr w D (cxM W r) g1 where
 hP:=hP
 hN:=by (refine C4f g.top fun lo mean mg mb T=>?_); exact T.nolimit
 C:=F0j rfl rfl AF N
 G:=C4v g
 L:=⟨_,_,C2w g hL ⟨_,_,g.X _ _ (by k_is),rfl⟩ ⟨_,_,g.X _ _ (by k_is),rfl⟩⟩
 F:=fun a f h=>by
  rcases B0p h with ⟨rfl,rfl⟩ | h
  ·(refine eqR D9g ?_); exact df152 g
  exact noP h
 P:=fun a m p h=>noP h
theorem stepB {f':Fm} {H':St} (g:Gr w D) (hP:D.P = w.params) (hL:D.LX = LXe w y) (HC1:CodeHd D.b0 34 30) (HC2:CodeHd D.b0 41 37) (AF:AfOk D.θ W r) (q5:(D.θ 5).natAbs ≤ 200) (N:NmOk D.θ) (hW:0 < W) (hm:m ≤ 5)
  (hT:∀ side (k:Nat),okK side W k = true → (k:Int) < W → C8m row m W k side = true) (hr:runB row m W r = some (f',H')) (I:Inv D c) (F:FR D c env lyL (fmB row)) (K:AOk D A 40 c env) (hH:c.H = mkS (osB m)) :
  wpAny (model Pr w) A (execs ((bodyL.drop 9).take 5) env) (XP D c env lyL (fmB row) .nxt f' H') Nev c.s:=by
 have W':=wdM g hP hL AF N
 have R:=B2m W' 100000
 refine B0a hr fun p hp hr=>B0a hr fun q hq hr=>?_
 simp only [bdB]
 refine B1s (wpAny_mono (R.ex lyL env (fmB row) c A 60 _ stB1 .nxt p.1 p.2 D4b (by (refine eqQ hH ?_); exact B1t hp) I F K) (fun fw s1 hx=>?_) Mine.idE)
 refine XP.seq F hx fun c1 h1 hs hd I1 F1 S1=>?_
 (clear hx; subst hs)
 have K1:=K.step S1 (.inr rfl)
 refine B1s (wpAny_mono (Q:=XP D c1 env lyL p.1 .nxt q.1 q.2) ?_ (fun fw s1 hx=>?_) Mine.idE)
 ·(refine x4a4 D5q fun target iter body pos e e1 e2 e3=>?_)
  (refine eqQ e ?_)
  refine B0a hq fun z hz hq=>?_
  refine wpAny_execs_cons (wpAny_mono (D2o (r2:=rM row m W r (r0M W r)) R hP W'.G e1 e2 e3 (D0f R g hP hL HC1 HC2 AF q5 N hW hm hT) (by (refine eqQ h1 ?_); exact hz) (B1t hq) I1 F1 (hd ▸ K1)) (fun fw s1 hx=>?_) Mine.idE)
  obtain ⟨hd2,c2,rfl,hH2,I2,S2,F2,hfw⟩:=hx
  have hfw:fw = .next:=hfw
  refine eqQ hfw ?_
  exact wpAny_execs_nil ⟨hd2,c2,rfl,hH2,I2,S2,F2,rfl⟩
 ·refine XP.seq F1 hx fun c2 h2 hs hd2 I2 F2 S2=>?_
  (clear hx; subst hs)
  exact R.ex lyL env q.1 c2 A 60 _ stB3 .nxt f' H' D4a (by (refine eqQ h2 ?_); exact B1t hr) I2 F2 ((hd2.trans hd) ▸ K1.step S2 (.inr rfl))
end
end Ab
end
section
set_option maxRecDepth 1000000
namespace Ab
noncomputable def stS:List S:=fl179.body.take 3
theorem D7p:cSs g1 60 lyL (bodyL.take 3) = some stS:=by rfl
noncomputable def cxS:Cx:=⟨[],[],fun J=>none,fun J=>none⟩
noncomputable def osS (n:Nat):List AO:=[.tab 121 0,.tab 30 1,.tab 37 1,.stat (symL 10 n),.cell none,.cell none]
noncomputable def fmS:Fm:=⟨D2i (List.replicate 18 none) 0 (some (.ref 3)),[4,5],40⟩
noncomputable def IE.fst (x:IE):IE:=@IE.casesOn (fun _=>IE) x (fun _=>x) (fun _=>x) (fun _ a _=>a)
noncomputable def IE.snd (x:IE):IE:=@IE.casesOn (fun _=>IE) x (fun _=>x) (fun _=>x) (fun _ _ b=>b)
noncomputable def rngS:AV → Bool
 | .int i=>decide (3 ≤ i) && decide (i < 6)
 | .sym t=>eqE t (.op .add (.lit 3) (.op .fmod t.snd.fst (.lit 3)))
 | _=>false
noncomputable def rngB:AV → Bool
 | .int i=>decide (-180 ≤ i) && decide (i < 181)
 | .sym t=>eqE t (.op .sub (.op .fmod t.fst.fst (.lit 361)) (.lit 180))
 | _=>false
noncomputable def four:List AV → Option (AV × AV × AV × AV)
 | [a,b,c,d]=>some (a,b,c,d)
 | _=>none
theorem C4w {l:List AV} {q:AV × AV × AV × AV} (h:four l = some q):l = [q.1,q.2.1,q.2.2.1,q.2.2.2]:=by
 rcases l with _ | ⟨a,_ | ⟨b,_ | ⟨c,_ | ⟨d,_ | ⟨e,l⟩⟩⟩⟩⟩ <;> first | exact noP h | exact (oYY h) ▸ rfl
noncomputable def kTab (H:St):Bool:=B4g 121 0 (H.get 0) && (B4g 30 1 (H.get 1) && (B4g 37 1 (H.get 2) && (isCel (H.get 4) && isCel (H.get 5))))
noncomputable def F0g (f : Fm) (H : St) : Option Unit := do
 let a ← B4q (← B4t f 1)
 let v2 ← B4t f 2
 let v3 ← B4t f 3
 let l ← B9q (H.get a)
 let q ← four l
 gd (kTab H)
 gd (isI q.1 && (isI q.2.1 && (isI q.2.2.1 && isI q.2.2.2)))
 gd (rngB v2)
 gd (rngS v3)
 gd (Nat.blt 5 a && Nat.blt a H.n)
 gd (decide (f.cel = [4,5]))
 some ()
inductive EndS (f:Fm) (H:St):Prop
 | mk (a:Nat) (v2 v3 c0 c1 c2 c3:AV) (q1:nth? f.loc 1 = some (some (.ref a))) (q2:nth? f.loc 2 = some (some v2)) (q3:nth? f.loc 3 = some (some v3)) (ga:H.get a = .list [c0,c1,c2,c3]) (kt:kTab H = true) (i0:isI c0 = true) (i1:isI c1 = true) (i2:isI c2 = true) (i3:isI c3 = true)
  (w2:rngB v2 = true) (w3:rngS v3 = true) (ha:5 < a) (hn:a < H.n) (ec:f.cel = [4,5])
theorem D0x {f:Fm} {H:St} (h:F0g f H = some ()):EndS f H:=by
 k_extra "fG"; refine B0a h fun v1 e1 h=>B0a h fun a ea h=>B0a h fun v2 e2 h=>B0a h fun v3 e3 h=>B0a h fun l el h=>B0a h fun q eq h=>gdP h fun kt h=>gdP h fun i3 h=>gdP h fun w2 h=>gdP h fun w3 h=>gdP h fun ha h=>gdP h fun hf Z=>?_
 exact B1b i3 fun i0 i3=>B1b i3 fun i1 i3=>B1b i3 fun i2 i3=>B1b ha fun h1 h2=>⟨a,v2,v3,q.1,q.2.1,q.2.2.1,q.2.2.2,C9f e1 (B0n ea),B1h e2,B1h e3,by (refine eqQ (B0w el) ?_; exact eqQ (C4w eq) rfl),kt,i0,i1,i2,i3,w2,w3,nYY h1,nYY h2,of_decide_eq_true hf⟩
noncomputable def chkS (n : Nat) : Bool := okO (do
 let p ← D2f ((run cxS 100000).ex stS fmS (mkS (osS n)))
 F0g p.1 p.2)
theorem tsAll:(List.range 64).all chkS = true:=by decide +kernel
end Ab
end
section
set_option backward.match.sparseCases false
set_option maxRecDepth 1000000
namespace Ab
noncomputable def C7v (t:IE) (l:List (IE × Int)):Option Int:=@List.rec (IE × Int) (fun _=>Option Int) none (fun p r ih=>ifB (eqE p.1 t) (some p.2) ih) l
theorem C3g {t:IE} {i:Int}:∀ {l:List (IE × Int)},C7v t l = some i → (t,i) ∈ l
 | [],h=>noP h
 | p :: r,h=>by
  have h:ifB (eqE p.1 t) (some p.2) (C7v t r) = some i:=h
  refine blP h (fun q h=>?_) fun q h=>.tail _ (C3g h)
  exact List.mem_cons.mpr (.inl (Prod.ext (B4v _ _ q).symm (oYY h).symm))
noncomputable def cellL:List AV:=[.sym (.var 2),.sym (.var 1),.sym (.var 3),.sym (.var 4)]
noncomputable def osR:List AO:=[.tab 121 0,.tab 30 1,.tab 37 1,.list cellL,.cell none,.cell none]
noncomputable def fmR (s:Nat) (v4:Option AV):Fm:=⟨[none,some (.ref 3),some (.sym (.var 0)),some (.int s),v4,none,none,none,none,none,none,none,none,none,none,none,none,none],[4,5],40⟩
noncomputable def stR:List S:=(fl179.body.drop 3).take 1
noncomputable def F1w (x:IE) (p:Nat):IE:=.op .fmod (.op .fdiv x (.lit (2 ^ p:Nat))) (.lit 2)
noncomputable def C4k (s m k:Nat):Nat → Nat → List Nat:=@Nat.rec (fun _=>Nat → Nat → List Nat) (fun J Y=>[]) (fun k ih p h=>match Nat.blt h s && (Nat.beq (2 * h) p || Nat.beq (m / 2 ^ p % 2) 0) with
  | true=>40 :: ih (p + 1) (h + 1)
  | false=>41 :: ih (p + 1) h) k
noncomputable def B9h (s:Nat) (l:List Nat):Nat → Nat → List (Nat × Nat):=@List.rec Nat (fun _=>Nat → Nat → List (Nat × Nat)) (fun J Y=>[]) (fun c r ih p h=>match Nat.beq c 40 with
  | true=>match Nat.blt h s && !(Nat.beq (2 * h) p) with
   | true=>(p,0) :: ih (p + 1) (h + 1)
   | false=>ih (p + 1) (h + 1)
  | false=>match Nat.blt h s && !(Nat.beq (2 * h) p) with
   | true=>(p,1) :: ih (p + 1) h
   | false=>ih (p + 1) h) l
noncomputable def lstR (s:Nat) (row:List Nat):List (IE × Int):=(B9h s row 0 0).map fun q=>(F1w (.var 1) q.1,(q.2:Int))
noncomputable def cxR (l:List (IE × Int)):Cx:=⟨[(145,D9p)],[],fun t=>C7v t l,fun J=>none⟩
noncomputable def keepR (H:St):Bool:=B4g 121 0 (H.get 0) && (B4g 30 1 (H.get 1) && (B4g 37 1 (H.get 2) && (B0h (B9q (H.get 3)) (F0e cellL) false && (isCel (H.get 4) && (isCel (H.get 5) && Nat.blt 5 H.n)))))
noncomputable def endR (s:Nat) (row:List Nat) (o:Option (Flo × Fm × St)):Bool:=B0h (D2f o) (fun x=>keepR x.2 && (D7b (x.1.loc.take 5) ((fmR s (some (.str row))).loc.take 5) && decide (x.1.cel = [4,5]) && Nat.beq x.1.dep 40)) false
noncomputable def F1r (s:Nat) (row:List Nat):Bool:=endR s row ((run (cxR (lstR s row)) 100000).ex stR (fmR s none) (mkS osR))
noncomputable def stA:List S:=(fl179.body.drop 4).take 5
noncomputable def stC:List S:=(fl179.body.drop 14).take 1
noncomputable def lstA (s r b:Nat):List (IE × Int):=(.op .fmod (.var 3) (.lit 8),(r:Int)) :: (List.range s).map fun p=>(F1w (.op .fdiv (.var 3) (.lit 8)) p,((b / 2 ^ p % 2:Nat):Int))
noncomputable def cxA (l:List (IE × Int)):Cx:=⟨[(131,D9r),(138,D9q)],[(126,0,pLex 121)],fun t=>C7v t l,fun J=>none⟩
noncomputable def osC (y:List Nat):List AO:=[.tab 121 2,.tab 30 1,.tab 37 1,.lex y y.length [],.cell none,.cell (some (.ref 3))]
noncomputable def fmC (y:List Nat):Fm:=⟨[none,none,none,none,none,none,some (.str y),none,none,none,none,none,none,none,none,none,none,none],[4,5],40⟩
noncomputable def cxC:Cx:=⟨[],[],fun J=>none,fun J=>none⟩
noncomputable def endC (o:Option (Flo × Fm × St)):Bool:=B0h (retO o) (fun x=>x.1 && (D7n 121 (x.2.2.get 0) && (D7n 30 (x.2.2.get 1) && (D7n 37 (x.2.2.get 2) && Nat.blt 2 x.2.2.n)))) false
noncomputable def chkC (y:List Nat):Bool:=endC ((run cxC 100000).ex stC (fmC y) (mkS (osC y)))
noncomputable def lexY:AO → Option (List Nat × Nat)
 | .lex y k pb=>match pb with | []=>some (y,k) | J :: Y=>none
 | _=>none
noncomputable def chs (l : List AV) : Option (List Nat) := @List.rec AV (fun _ => Option (List Nat)) (some []) (fun a r ih => do
  let x ← B5a a
  let c ← one? x
  let l ← ih
  some (c :: l)) l
noncomputable def endA (s : Nat) (o : Option (Flo × Fm × St)) : Option (List Nat × List Nat × Nat × Nat × Nat) := do
 let x ← D2f o
 let y ← B5a (← B4t x.1 6)
 let i7 ← B4q (← B4t x.1 7)
 let l ← B9q (x.2.get i7)
 let cs ← chs l
 let il ← celJ (x.2.get 5)
 let q ← lexY (x.2.get il)
 gd (D6y q.1 y)
 gd ((y.drop q.2).all ws0 && Nat.ble y.length 900)
 gd (B4g 121 2 (x.2.get 0) && (B4g 30 1 (x.2.get 1) && B4g 37 1 (x.2.get 2)))
 gd (isCel (x.2.get 4))
 gd (Nat.blt 5 i7 && (Nat.blt 5 il && (!(Nat.beq i7 il) && (Nat.blt i7 x.2.n && Nat.blt il x.2.n))))
 gd (B0h (B4t x.1 2) (fun v=>C1n v (.sym (.var 0))) false && (B0h (B4t x.1 4) (fun v=>C1n v (.pc [.blob 20])) false && (decide (x.1.cel = [4,5]) && Nat.beq x.1.dep 40)))
 gd (Nat.beq cs.length s && (B5i cs && cs.all fun c=>Nat.blt c 128))
 gd (y.all fun c=>Nat.blt c 128)
 some (y,cs,i7,il,q.2)
noncomputable def F1t (s r b:Nat):Bool:=B0h (endA s ((run (cxA (lstA s r b)) 100000).ex stA (fmR s (some (.pc [.blob 20]))) (mkS osR))) (fun z=>chkC z.1) false
end Ab
end
section
set_option backward.match.sparseCases false
set_option maxRecDepth 1000000
namespace Ab
open Mine (Pr)
theorem D4l {θ:Nat → Int} {v:AV} (h:rngB v = true):isI v = true ∧ -180 ≤ vl θ v ∧ vl θ v < 181:=by
 cases v with
 | int i=>exact B1b h fun a b=>⟨rfl,of_decide_eq_true a,of_decide_eq_true b⟩
 | sym t =>
  refine ⟨rfl,?_⟩
  show -180 ≤ t.sem θ ∧ t.sem θ < 181
  (refine eqQ (B4v _ _ h) ?_)
  have h1:=Int.fmod_nonneg_of_pos (t.fst.fst.sem θ) (b:=361) (by decide)
  have h2:=Int.fmod_lt_of_pos (t.fst.fst.sem θ) (b:=361) (by decide)
  show -180 ≤ Int.fmod (t.fst.fst.sem θ) 361 - 180 ∧ Int.fmod (t.fst.fst.sem θ) 361 - 180 < 181
  omega
 | _=>exact fT h
theorem D4j {θ:Nat → Int} {v:AV} (h:rngS v = true):isI v = true ∧ 3 ≤ vl θ v ∧ vl θ v < 6:=by
 cases v with
 | int i=>exact B1b h fun a b=>⟨rfl,of_decide_eq_true a,of_decide_eq_true b⟩
 | sym t =>
  refine ⟨rfl,?_⟩
  show 3 ≤ t.sem θ ∧ t.sem θ < 6
  (refine eqQ (B4v _ _ h) ?_)
  have h1:=Int.fmod_nonneg_of_pos (t.snd.fst.sem θ) (b:=3) (by decide)
  have h2:=Int.fmod_lt_of_pos (t.snd.fst.sem θ) (b:=3) (by decide)
  show 3 ≤ 3 + Int.fmod (t.snd.fst.sem θ) 3 ∧ 3 + Int.fmod (t.snd.fst.sem θ) 3 < 6
  omega
 | _=>exact fT h
noncomputable def th1 (n c1 c0 c2 c3:Int):Nat → Int
 | 0=>n | 1=>c1 | 2=>c0 | 3=>c2 | 4=>c3 | _=>0
noncomputable abbrev thS (θ:Nat → Int) (v2 c0 c1 c2 c3:AV):Nat → Int:=th1 (vl θ v2) (vl θ c1) (vl θ c0) (vl θ c2) (vl θ c3)
noncomputable abbrev whS (a:Nat):List Nat:=[0,1,2,a,4,5]
theorem D1n {a:Nat} (ha:5 < a):(whS a).Nodup:=by
 refine (List.perm_middle (l₁:=[0,1,2]) (a:=a) (l₂:=[4,5])).nodup_iff.mpr (List.nodup_cons.mpr ⟨fun h=>?_,by decide⟩)
 exact absurd (ltL (m:=5) (n:=6) (by decide) rfl _ h) (Nat.not_lt.mpr ha)
theorem D1o {a n:Nat} (h:a < n) (ha:5 < a):∀ i ∈ whS a,i < n:=fun i hi =>
 (List.mem_cons.mp ((List.perm_middle (l₁:=[0,1,2]) (a:=a) (l₂:=[4,5])).mem_iff.mp hi)).elim (fun e=>e ▸ h) (ltL (m:=5) (Nat.lt_trans ha h) rfl i)
section
variable {w:World} {D:Gd} {A:Around} {env:Env} {c:Cfg} {n:Nat}
theorem D1d (h:n ≤ 63):chkS n = true:=List.all_eq_true.mp tsAll n (List.mem_range.mpr (Nat.lt_succ_of_le h))
theorem D6i (h:chkS n = true):∃ f H,(run cxS 100000).ex stS fmS (mkS (osS n)) = some (.nxt,f,H) ∧ EndS f H :=
 B0a (C9y h) fun p hr h=>⟨p.1,p.2,B1t hr,D0x h⟩
theorem sy {D1:Gd} {c':Cfg} {v:AV} {t:IE} {u:Value} (h:isI v = true) (e:t.sem D1.θ = vl D.θ v) (r:VR D.θ c v u):VR D1.θ c' (.sym t) u:=by
 obtain ⟨k,hk⟩:=D7j h r
 exact ⟨k,by (refine eqQ e ?_); exact hk⟩
noncomputable abbrev Dm (w:World) (D:Gd) (θ:Nat → Int):Gd:=⟨θ,LXm w,D.b0,D.P⟩
theorem D5p {c':Cfg} {v2 c0 c1 c2 c3:AV} (i0:isI c0 = true) (i1:isI c1 = true) (i2:isI c2 = true) (i3:isI c3 = true) {a:Addr} {e:List (Addr × Obj)} (r:OR D c (.list [c0,c1,c2,c3]) a e) :
  OR (Dm w D (thS D.θ v2 c0 c1 c2 c3)) c' (.list cellL) a e:=by
 k_extra "fG"; obtain ⟨_,vs,k,e,rv⟩:=r
 cases rv with
 | cons x0 rv=>cases rv with
  | cons x1 rv=>cases rv with
   | cons x2 rv=>cases rv with
    | cons x3 rv =>
     cases rv
     exact ⟨(by decide:4 ≤ B6x),_,k,e,.cons (sy (D1:=Dm w D (thS D.θ v2 c0 c1 c2 c3)) i0 rfl x0) (.cons (sy (D1:=Dm w D (thS D.θ v2 c0 c1 c2 c3)) i1 rfl x1) (.cons (sy (D1:=Dm w D (thS D.θ v2 c0 c1 c2 c3)) i2 rfl x2) (.cons (sy (D1:=Dm w D (thS D.θ v2 c0 c1 c2 c3)) i3 rfl x3) .nil)))⟩
theorem backS {f:Fm} {H:St} (E:EndS f H) (hH:c.H = H) (I:Inv D c) (F:FR D c env lyL f) (K:AOk D A 40 c env) :
  ∃ (θ':Nat → Int) (s:Nat) (wh:List Nat),-180 ≤ θ' 0 ∧ θ' 0 < 181 ∧ (s = 3 ∨ s = 4 ∨ s = 5) ∧ Inv (Dm w D θ') (c.rc wh osR) ∧ FR (Dm w D θ') (c.rc wh osR) env lyL (fmR s none) ∧ AOk (Dm w D θ') A 40 (c.rc wh osR) env:=by
 k_extra "fG"; subst hH
 obtain ⟨a,v2,v3,c0,c1,c2,c3,q1,q2,q3,ga,kt,i0,i1,i2,i3,w2,w3,ha,hn,ec⟩:=E
 (refine C5f (D4l (θ:=D.θ) w2) fun b2 r21 r22=>?_)
 (refine C5f (D4j (θ:=D.θ) w3) fun b3 r31 r32=>?_)
 have hsz:(((vl D.θ v3).toNat:Nat):Int) = vl D.θ v3:=Int.toNat_of_nonneg (by omega)
 have lt:∀ {i},Nat.ble i 5 = true → i < c.H.n:=fun h=>Nat.lt_of_le_of_lt (nYY h) (Nat.lt_trans ha hn)
 refine B1b kt fun t0 kt=>B1b kt fun t1 kt=>B1b kt fun t2 kt=>B1b kt fun k4 k5=>?_
 refine ⟨thS D.θ v2 c0 c1 c2 c3,(vl D.θ v3).toNat,whS a,r21,r22,by omega,C2m I F K rfl (D1n ha) (D1o hn ha) ?_ ?_ rfl ec⟩
 ·exact .cons (I.at' (B1e t0) (lt rfl)) (.cons (I.at' (B1e t1) (lt rfl)) (.cons (I.at' (B1e t2) (lt rfl)) (.cons (D5p i0 i1 i2 i3 (I.at' ga hn)) (.cons (B1x k4 (I.rel 4 (lt rfl))) (.cons (B1x k5 (I.rel 5 (lt rfl))) .nil)))))
 ·exact .no (.yes ⟨_,q1,B5o rfl rfl⟩ (.yes ⟨_,q2,fun u hu=>sy (D1:=Dm w D (thS D.θ v2 c0 c1 c2 c3)) b2 rfl hu⟩ (.yes ⟨_,q3,fun u hu=>by obtain ⟨t,ht⟩:=D7j b3 hu; exact ⟨t,by (refine eqQ ht ?_); exact congrArg (Value.int · t) hsz.symm⟩⟩ (.no (.no (.no (.no (.no (.no (.no (.no (.no (.no (.no (.no (.no (.no .nil)))))))))))))))))
theorem wdS (g:Gr w D) (hP:D.P = w.params) (hL:D.LX = LXm w):Wd Pr w D cxS g1 where
 hP:=hP
 hN:=by (refine C4f g.top fun lo mean mg mb T=>?_); exact T.nolimit
 C:=⟨fun t c h=>noP h,fun t n h=>noP h⟩
 G:=C4v g
 L:=⟨_,_,B5g g hL ⟨_,_,g.X _ _ (by k_is),rfl⟩ ⟨_,_,g.X _ _ (by k_is),rfl⟩⟩
 F:=fun a f h=>noP h
 P:=fun a m p h=>noP h
theorem D3i {θ:Nat → Int} {m K p:Nat} {x:IE} (h:(x.sem θ).fmod ((2 ^ K:Nat):Int) = (m:Int)) (hp:p < K):(F1w x p).sem θ = ((m / 2 ^ p % 2:Nat):Int):=by
 show ((x.sem θ).fdiv ((2 ^ p:Nat):Int)).fmod 2 = _
 have e0:=Int.mul_fdiv_add_fmod (x.sem θ) ((2 ^ K:Nat):Int)
 rw [h] at e0
 (clear h; obtain ⟨d,rfl⟩:∃ d,K = p + (d + 1):=⟨K - p - 1,by omega⟩)
 have e1:((2 ^ (p + (d + 1)):Nat):Int) = ((2 ^ p:Nat):Int) * (((2 ^ d:Nat):Int) * 2):=by
  simp only [Nat.pow_add,Nat.pow_succ]; simp only [Int.natCast_mul]; rfl
 have hp0:((2 ^ p:Nat):Int) ≠ 0:=by exact_mod_cast Nat.ne_of_gt (Nat.pow_pos (by decide:0 < 2))
 rw [← e0,e1,Int.mul_assoc,Int.add_comm,Int.add_mul_fdiv_left _ _ hp0,Int.mul_assoc,Int.mul_comm (((2 ^ d:Nat):Int)),Int.mul_assoc 2,Int.add_mul_fmod_self_left]
 rw [Int.fdiv_eq_ediv_of_nonneg _ (Int.natCast_nonneg _),← Int.natCast_ediv,Int.fmod_eq_emod_of_nonneg _ (by decide)]
 rfl
noncomputable def D7f (s k:Nat):Nat → Nat → List (List Nat):=@Nat.rec (fun _=>Nat → Nat → List (List Nat)) (fun J Y=>[[]]) (fun k ih p h=>match Nat.blt h s with
  | false=>(ih (p + 1) h).map (41 :: ·)
  | true=>match Nat.beq (2 * h) p with
   | true=>(ih (p + 1) (h + 1)).map (40 :: ·)
   | false=>(ih (p + 1) (h + 1)).map (40 :: ·) ++ (ih (p + 1) h).map (41 :: ·)) k
theorem B7s (s m:Nat):∀ k p h,C4k s m k p h ∈ D7f s k p h
 | 0,p,h=>.head _
 | k + 1,p,h=>by
  have i1:=B7s s m k (p + 1) (h + 1)
  have i2:=B7s s m k (p + 1) h
  show (match Nat.blt h s && (Nat.beq (2 * h) p || Nat.beq (m / 2 ^ p % 2) 0) with | true=>40 :: C4k s m k (p + 1) (h + 1) | false=>41 :: C4k s m k (p + 1) h) ∈ (match Nat.blt h s with | false=>(D7f s k (p + 1) h).map (41 :: ·) | true=>match Nat.beq (2 * h) p with | true=>(D7f s k (p + 1) (h + 1)).map (40 :: ·) | false=>(D7f s k (p + 1) (h + 1)).map (40 :: ·) ++ (D7f s k (p + 1) h).map (41 :: ·))
  cases Nat.blt h s with
  | false=>exact List.mem_map_of_mem i2
  | true=>cases Nat.beq (2 * h) p with
   | true=>exact List.mem_map_of_mem i1
   | false=>cases Nat.beq (m / 2 ^ p % 2) 0 with
    | true=>exact List.mem_append_left _ (List.mem_map_of_mem i1)
    | false=>exact List.mem_append_right _ (List.mem_map_of_mem i2)
theorem C2j (s m:Nat):∀ k p h q,q ∈ B9h s (C4k s m k p h) p h → q.1 < p + k ∧ q.2 = m / 2 ^ q.1 % 2
 | 0,p,h,q,hq=>absurd (show q ∈ ([]:List (Nat × Nat)) from hq) List.not_mem_nil
 | k + 1,p,h,q,hq=>by
  have hq:q ∈ B9h s (match Nat.blt h s && (Nat.beq (2 * h) p || Nat.beq (m / 2 ^ p % 2) 0) with | true=>40 :: C4k s m k (p + 1) (h + 1) | false=>41 :: C4k s m k (p + 1) h) p h:=hq
  have st:∀ h',q ∈ B9h s (C4k s m k (p + 1) h') (p + 1) h' → q.1 < p + (k + 1) ∧ q.2 = m / 2 ^ q.1 % 2:=fun h' z=>by
   have:=C2j s m k (p + 1) h' q z
   exact ⟨by omega,this.2⟩
  cases e:Nat.blt h s && (Nat.beq (2 * h) p || Nat.beq (m / 2 ^ p % 2) 0) with
  | true =>
   rw [e] at hq
   have hq:q ∈ (match Nat.blt h s && !(Nat.beq (2 * h) p) with | true=>(p,0) :: B9h s (C4k s m k (p + 1) (h + 1)) (p + 1) (h + 1) | false=>B9h s (C4k s m k (p + 1) (h + 1)) (p + 1) (h + 1)):=hq
   cases e2:Nat.blt h s && !(Nat.beq (2 * h) p) with
   | true =>
    rw [e2] at hq
    rcases List.mem_cons.mp hq with rfl | hq
    ·refine ⟨Nat.lt_add_of_pos_right (Nat.succ_pos _),?_⟩
     k_extra "fG"; refine B1b e fun a b=>B1b e2 fun c d=>?_
     cases z:Nat.beq (2 * h) p with
     | true=>rw [z] at d; exact fT d
     | false=>rw [z] at b; exact (Nat.eq_of_beq_eq_true b).symm
    ·exact st _ hq
   | false=>rw [e2] at hq; exact st _ hq
  | false =>
   rw [e] at hq
   have hq:q ∈ (match Nat.blt h s && !(Nat.beq (2 * h) p) with | true=>(p,1) :: B9h s (C4k s m k (p + 1) h) (p + 1) h | false=>B9h s (C4k s m k (p + 1) h) (p + 1) h):=hq
   cases e2:Nat.blt h s && !(Nat.beq (2 * h) p) with
   | true =>
    rw [e2] at hq
    rcases List.mem_cons.mp hq with rfl | hq
    ·refine ⟨Nat.lt_add_of_pos_right (Nat.succ_pos _),?_⟩
     refine B1b e2 fun c d=>?_
     k_extra "fG"; rw [c] at e
     k_extra "fG"; cases z:Nat.beq (2 * h) p with
     | true=>rw [z] at d; exact fT d
     | false =>
      rw [z] at e
      have e:Nat.beq (m / 2 ^ p % 2) 0 = false:=e
      have:=Nat.ne_of_beq_eq_false e
      show 1 = m / 2 ^ p % 2
      omega
    ·exact st _ hq
   | false=>rw [e2] at hq; exact st _ hq
noncomputable def B1w (s:Nat):List (List Nat):=D7f s (2 * s) 0 0
theorem tr3:(B1w 3).all (F1r 3) = true:=by decide +kernel
theorem tr4:(B1w 4).all (F1r 4) = true:=by decide +kernel
theorem tr5:(B1w 5).all (F1r 5) = true:=by decide +kernel
theorem D1e {s:Nat} (hs:s = 3 ∨ s = 4 ∨ s = 5) {row:List Nat} (h:row ∈ B1w s):F1r s row = true:=by
 rcases hs with rfl | rfl | rfl
 ·exact List.all_eq_true.mp tr3 _ h
 ·exact List.all_eq_true.mp tr4 _ h
 ·exact List.all_eq_true.mp tr5 _ h
inductive EndR (s:Nat) (row:List Nat) (o:Option (Flo × Fm × St)):Prop
 | mk (f:Fm) (H:St) (e:o = some (.nxt,f,H)) (t0:H.get 0 = .tab 121 0) (t1:H.get 1 = .tab 30 1) (t2:H.get 2 = .tab 37 1) (g3:H.get 3 = .list cellL) (k4:isCel (H.get 4) = true) (k5:isCel (H.get 5) = true) (hn:5 < H.n) (tk:f.loc.take 5 = (fmR s (some (.str row))).loc.take 5) (ec:f.cel = [4,5]) (hd:f.dep = 40)
theorem D5x {s:Nat} {row:List Nat} {o:Option (Flo × Fm × St)} (h:endR s row o = true):EndR s row o:=by
 k_extra "fG"; refine B5t h (fun x hx h=>B1b h fun kr h=>B1b kr fun t0 kr=>B1b kr fun t1 kr=>B1b kr fun t2 kr=>B1b kr fun g3 kr=>B1b kr fun k4 kr=>B1b kr fun k5 kn=>B1b h fun h1 hd=>B1b h1 fun h1 h2=>?_) fun _ h=>fT h
 refine ⟨x.1,x.2,B1t hx,B1e t0,B1e t1,B1e t2,?_,k4,k5,nYY kn,C1m h1,of_decide_eq_true h2,Nat.eq_of_beq_eq_true hd⟩
 refine B5t g3 (fun l hl h=>?_) fun _ h=>fT h
 (refine eqQ (B0w hl) ?_; exact eqR (B8j h) rfl)
theorem D7q:cSs g1 60 lyL ((bodyL.drop 3).take 1) = some stR:=by rfl
theorem B9x {θ:Nat → Int} {l:List (IE × Int)} (hl:∀ q ∈ l,q.1.sem θ = q.2) {t:IE} {i:Int} (h:C7v t l = some i):t.sem θ = i:=hl _ (C3g h)
theorem wdR {l:List (IE × Int)} (g:Gr w D) (hP:D.P = w.params) (hL:D.LX = LXm w) (hl:∀ q ∈ l,q.1.sem D.θ = q.2):Wd Pr w D (cxR l) g1 where
 hP:=hP
 hN:=by (refine C4f g.top fun lo mean mg mb T=>?_); exact T.nolimit
 C:=⟨fun t c h=>B9x hl h,fun t n h=>noP h⟩
 G:=C4v g
 L:=⟨_,_,B5g g hL ⟨_,_,g.X _ _ (by k_is),rfl⟩ ⟨_,_,g.X _ _ (by k_is),rfl⟩⟩
 F:=fun a f h=>by
  rcases B0p h with ⟨rfl,rfl⟩ | h
  ·(refine eqR D9h ?_); exact df145 g
  exact noP h
 P:=fun a m p h=>noP h
end
end Ab
end
section
set_option backward.match.sparseCases false
set_option maxRecDepth 1000000
namespace Ab
open Mine (Pr)
inductive EndA (s:Nat) (o:Option (Flo × Fm × St)) (z:List Nat × List Nat × Nat × Nat × Nat):Prop
 | mk (f:Fm) (H:St) (e:o = some (.nxt,f,H)) (e6:nth? f.loc 6 = some (some (.str z.1))) (e7:nth? f.loc 7 = some (some (.ref z.2.2.1))) (g7:H.get z.2.2.1 = .list (z.2.1.map fun c=>.str [c])) (g5:H.get 5 = .cell (some (.ref z.2.2.2.1))) (gl:H.get z.2.2.2.1 = .lex z.1 z.2.2.2.2 []) (hk:(z.1.drop z.2.2.2.2).all ws0 = true)
  (t0:H.get 0 = .tab 121 2) (t1:H.get 1 = .tab 30 1) (t2:H.get 2 = .tab 37 1) (k4:isCel (H.get 4) = true) (l7:5 < z.2.2.1) (ll:5 < z.2.2.2.1) (ne:z.2.2.1 ≠ z.2.2.2.1) (n7:z.2.2.1 < H.n) (nl:z.2.2.2.1 < H.n)
  (e2:nth? f.loc 2 = some (some (.sym (.var 0)))) (e4:nth? f.loc 4 = some (some (.pc [.blob 20]))) (ec:f.cel = [4,5]) (hd:f.dep = 40) (hl:z.2.1.length = s) (hn:z.2.1.Nodup) (hc:∀ c ∈ z.2.1,c < 128) (hy:∀ c ∈ z.1,c < 128)
theorem C3v:∀ {l:List AV} {cs:List Nat},chs l = some cs → l = cs.map fun c=>.str [c]
 | [],cs,h=>by (refine eqR (oYY h) ?_); rfl
 | a :: l,cs,h=>by
  refine B0a h fun x hx h=>B0a h fun c hc h=>B0a h fun r hr h=>?_
  (refine eqR (oYY h) ?_; refine eqQ (B0e hx) ?_; refine eqQ (B0c hc) ?_; refine eqQ (C3v hr) ?_); rfl
theorem C7c {v:AO} {q:List Nat × Nat} (h:lexY v = some q):v = .lex q.1 q.2 []:=by
 cases v with
 | lex y k pb=>cases pb with
  | nil=>(exact eqR (oYY h) rfl)
  | cons=>exact noP h
 | _=>exact noP h
theorem decV {x:AV} {o:Option AV} (h:B0h o (fun v=>C1n v x) false = true):o = some x:=by
 refine B5t h (fun a ha h=>?_) fun _ h=>fT h
 (refine eqQ ha ?_; exact eqQ (B4i h) rfl)
theorem B3b {a b:Nat} (h:Nat.blt a b = true):a < b:=nYY h
theorem D5z {s:Nat} {o:Option (Flo × Fm × St)} {z:List Nat × List Nat × Nat × Nat × Nat} (h:endA s o = some z):EndA s o z:=by
 refine B0a h fun x hx h=>B0a h fun v6 e6 h=>B0a h fun y ey h=>B0a h fun v7 e7 h=>B0a h fun i7 ei h=>B0a h fun l el h=>B0a h fun cs ecs h=>B0a h fun il eil h=>B0a h fun q eq h=>gdP h fun k1 h=>gdP h fun k2 h=>gdP h fun k3 h=>gdP h fun k4 h=>gdP h fun k5 h=>gdP h fun k6 h=>gdP h fun k7 h=>gdP h fun k8 h=>?_
 refine B1b k2 fun k2 _=>B1b k3 fun t0 k3=>B1b k3 fun t1 t2=>B1b k5 fun l7 k5=>B1b k5 fun ll k5=>B1b k5 fun ne k5=>B1b k5 fun n7 nl=>B1b k6 fun e2 k6=>B1b k6 fun e4 k6=>B1b k6 fun ec hd=>B1b k7 fun hl k7=>B1b k7 fun hn hc=>?_
 have eq1:=of_decide_eq_true ((B5n _ _).symm.trans k1)
 (refine eqR (oYY h) ?_)
 refine ⟨x.1,x.2,B1t hx,C9f e6 (B0e ey),C9f e7 (B0n ei),by (refine eqQ (B0w el) ?_; exact eqQ (C3v ecs) rfl),C0c eil,by (refine eqQ (C7c eq) ?_; exact eqQ eq1 rfl),k2,B1e t0,B1e t1,B1e t2,k4,B3b l7,B3b ll,fun z=>?_,B3b n7,B3b nl,B1h (decV e2),B1h (decV e4),of_decide_eq_true ec,Nat.eq_of_beq_eq_true hd,Nat.eq_of_beq_eq_true hl,B2h hn,fun c hc'=>B3b (List.all_eq_true.mp hc c hc'),fun c hc'=>B3b (List.all_eq_true.mp k8 c hc')⟩
 have z:i7 = il:=z
 rw [z,Nat.beq_refl] at ne
 (first | exact noP ne | exact fT ne | exact nomatch ne)
theorem D7s:cSs g1 60 lyL ((bodyL.drop 4).take 5) = some stA:=by rfl
theorem D7r:cSs g1 60 lyL (bodyL.drop 14) = some stC:=by rfl
noncomputable def C4l (θ:Nat → Int) (row:List Nat):Nat → Int:=fun i=>if i = 20 then (B8l row:Int) else θ i
section
variable {w:World} {D:Gd} {A:Around} {env:Env} {c:Cfg} {s:Nat} {row:List Nat}
theorem C8u {θ θ':Nat → Int} {c c':Cfg} {x:List Nat} {i:Nat} (e:θ' i = (B8l x:Int)) {u:Value} (h:VR θ c (.str x) u):VR θ' c' (.pc [.blob i]) u:=by
 k_extra "fG"; have h:SOk x ∧ ∃ t,u = .str ⟨x.toArray⟩ t:=h
 have e:B1o θ' [.blob i] = x:=by
  show F1o (θ' i).toNat ++ [] = x
  rw [e,List.append_nil]; exact C3o h.1.2
 show SOk (B1o θ' [.blob i]) ∧ ∃ t,u = .str ⟨(B1o θ' [.blob i]).toArray⟩ t
 (refine eqQ e ?_); exact h
theorem C3y {θ θ':Nat → Int} {c c':Cfg} {x:List Nat} {i:Nat} (hx:∀ a ∈ x,a < 0x110000) (e:θ i = (B8l x:Int)) {u:Value} (h:VR θ c (.pc [.blob i]) u):VR θ' c' (.str x) u:=by
 have h:SOk (B1o θ [.blob i]) ∧ ∃ t,u = .str ⟨(B1o θ [.blob i]).toArray⟩ t:=h
 have e:B1o θ [.blob i] = x:=by
  show F1o (θ i).toNat ++ [] = x
  rw [e,List.append_nil]; exact C3o hx
 replace h:=e ▸ h; exact h
theorem D1f {θ θ':Nat → Int} {c c':Cfg} {vs:List Value} (h1:θ' 1 = θ 1) (h2:θ' 2 = θ 2) (h3:θ' 3 = θ 3) (h4:θ' 4 = θ 4) (r:VRs θ c cellL vs):VRs θ' c' cellL vs:=by
 have k:∀ i,θ' i = θ i → ∀ u,VR θ c (.sym (.var i)) u → VR θ' c' (.sym (.var i)) u:=fun i e u h=>by
  obtain ⟨t,h⟩:=h
  exact ⟨t,by (refine eqQ h ?_); exact congrArg (Value.int · t) e.symm⟩
 refine r.imp fun v hv u h=>?_
 rcases List.mem_cons.mp hv with rfl | hv
 ·exact k 2 h2 u h
 rcases List.mem_cons.mp hv with rfl | hv
 ·exact k 1 h1 u h
 rcases List.mem_cons.mp hv with rfl | hv
 ·exact k 3 h3 u h
 rw [List.mem_singleton.mp hv] at h ⊢
 exact k 4 h4 u h
theorem backR {f:Fm} {H:St} {o:Option (Flo × Fm × St)} (E:EndR s row o) (eo:o = some (.nxt,f,H)) (hH:c.H = H) (I:Inv D c) (F:FR D c env lyL f) (K:AOk D A 40 c env) :
  Inv (Dm w D (C4l D.θ row)) (c.rc [0,1,2,3,4,5] osR) ∧ FR (Dm w D (C4l D.θ row)) (c.rc [0,1,2,3,4,5] osR) env lyL (fmR s (some (.pc [.blob 20]))) ∧ AOk (Dm w D (C4l D.θ row)) A 40 (c.rc [0,1,2,3,4,5] osR) env:=by
 k_extra "fG"; subst hH
 obtain ⟨f0,H0,e0,t0,t1,t2,g3,k4,k5,hn,tk,ec,hd⟩:=E
 have e:=oYY (eo.symm.trans e0)
 have ef:=(Prod.mk.inj (Prod.mk.inj e).2).1
 have eH:=(Prod.mk.inj (Prod.mk.inj e).2).2
 (clear e; (clear e0; subst ef eH))
 have lt:∀ {i},Nat.ble i 5 = true → i < c.H.n:=fun h=>Nat.lt_of_le_of_lt (nYY h) hn
 have lo:∀ {i v},i < 5 → nth? (fmR s (some (.str row))).loc i = some (some v) → nth? f.loc i = some (some v):=fun hi e=>by
  (refine eqR (B3s hi) ?_; refine eqQ tk ?_; refine eqQ (B3s hi) ?_); exact e
 refine C2m I F K rfl (by decide) (ltL (m:=5) hn rfl) ?_ ?_ rfl ec
 ·refine .cons (I.at' t0 (lt rfl)) (.cons (I.at' t1 (lt rfl)) (.cons (I.at' t2 (lt rfl)) (.cons ?_ (.cons (B1x k4 (I.rel 4 (lt rfl))) (.cons (B1x k5 (I.rel 5 (lt rfl))) .nil)))))
  k_extra "fG"; obtain ⟨hl,vs,k,e,rs⟩:=I.at' g3 (lt rfl)
  exact ⟨hl,vs,k,e,D1f (θ:=D.θ) (θ':=C4l D.θ row) rfl rfl rfl rfl rs⟩
 ·exact .no (.yes ⟨_,lo (by decide:1 < 5) rfl,B5o rfl rfl⟩ (.yes ⟨_,lo (by decide:2 < 5) rfl,fun u h=>h⟩ (.yes ⟨_,lo (by decide:3 < 5) rfl,fun u h=>h⟩ (.yes ⟨_,lo (by decide:4 < 5) rfl,fun u h=>C8u (θ':=C4l D.θ row) (c':=c.rc [0,1,2,3,4,5] osR) (i:=20) rfl h⟩ (.no (.no (.no (.no (.no (.no (.no (.no (.no (.no (.no (.no (.no .nil)))))))))))))))))
theorem wdA {l:List (IE × Int)} (g:Gr w D) (hP:D.P = w.params) (hL:D.LX = LXm w) (HC0:CodeHd D.b0 125 121) (hl:∀ q ∈ l,q.1.sem D.θ = q.2):Wd Pr w D (cxA l) g1 where
 hP:=hP
 hN:=by (refine C4f g.top fun lo mean mg mb T=>?_); exact T.nolimit
 C:=⟨fun t c h=>B9x hl h,fun t n h=>noP h⟩
 G:=C4v g
 L:=⟨_,_,B5g g hL ⟨_,_,g.X _ _ (by k_is),rfl⟩ ⟨_,_,g.X _ _ (by k_is),rfl⟩⟩
 F:=fun a f h=>by
  rcases B0p h with ⟨rfl,rfl⟩ | h
  ·(refine eqR D9j ?_); exact df131 g
  rcases B0p h with ⟨rfl,rfl⟩ | h
  ·(refine eqR D9i ?_); exact df138 g
  exact noP h
 P:=fun a m p h=>by
  rcases B0p h with ⟨rfl,h⟩ | h
  ·refine B0j h ?_
   exact D4o g hL HC0 ⟨_,_,g.X _ _ (by k_is),rfl⟩
  exact noP h
theorem wdC (g:Gr w D) (hP:D.P = w.params) (hL:D.LX = LXm w):Wd Pr w D cxC g1 where
 hP:=hP
 hN:=by (refine C4f g.top fun lo mean mg mb T=>?_); exact T.nolimit
 C:=⟨fun t c h=>noP h,fun t n h=>noP h⟩
 G:=C4v g
 L:=⟨_,_,B5g g hL ⟨_,_,g.X _ _ (by k_is),rfl⟩ ⟨_,_,g.X _ _ (by k_is),rfl⟩⟩
 F:=fun a f h=>noP h
 P:=fun a m p h=>noP h
theorem fR_ok {θ:Nat → Int} {m:Nat} (h:(θ 1).fmod ((2 ^ (2 * s):Nat):Int) = (m:Int)):∀ q ∈ lstR s (C4k s m (2 * s) 0 0),q.1.sem θ = q.2:=by
 intro q hq
 k_extra "fG"; (refine B0o (List.mem_map.mp hq) fun p hp e92=>?_; (clear hq; subst e92))
 obtain ⟨h1,h2⟩:=C2j s m (2 * s) 0 0 p hp
 rw [Nat.zero_add] at h1
 show (F1w (.var 1) p.1).sem θ = (p.2:Int)
 (refine eqQ h2 ?_)
 exact D3i (x:=.var 1) h h1
theorem fA_ok {θ:Nat → Int} {r b:Nat} (h1:(θ 3).fmod 8 = (r:Int)) (h2:((θ 3).fdiv 8).fmod ((2 ^ s:Nat):Int) = (b:Int)):∀ q ∈ lstA s r b,q.1.sem θ = q.2:=by
 intro q hq
 rcases List.mem_cons.mp hq with rfl | hq
 ·exact h1
 ((refine B0o (List.mem_map.mp hq) fun p hp e98=>?_); refine eqR e98 ?_)
 exact D3i (x:=.op .fdiv (.var 3) (.lit 8)) h2 (List.mem_range.mp hp)
end
end Ab
end
section
set_option backward.match.sparseCases false
set_option maxRecDepth 1000000
namespace Ab
noncomputable def wOf (l:List Nat):Nat → Nat:=@List.rec Nat (fun _=>Nat → Nat) (fun J=>1) (fun c r ih n=>@Bool.rec (fun _=>Nat) (Nat.mul n (ih (Nat.sub n 1))) (ih (.succ n)) (Nat.beq c 40)) l
noncomputable abbrev Tz3:=Nat × List Nat × Nat
noncomputable abbrev Tn3:=Nat × Nat × Nat
noncomputable def L3 (f:Nat → List Nat → List Nat):List Tz3:=[3,4,5].flatMap fun s=>(B1w s).flatMap fun row=>(f s row).map fun k=>(s,row,k)
noncomputable def LB:List Tz3:=L3 fun _ row=>List.range (wOf row 0)
noncomputable def LN:List Tz3:=L3 fun _ row=>[0,wOf row 0 - 1]
noncomputable def LA:List (Nat × Nat × Nat):=[3,4,5].flatMap fun s=>(List.range 8).flatMap fun r=>(List.range (2 ^ s)).map fun b=>(s,r,b)
noncomputable def pB (z:Tz3):Bool:=F1s z.2.1 z.1 (wOf z.2.1 0:Nat) (z.2.2:Nat)
noncomputable def pI (z:Tz3):Bool:=C8m z.2.1 z.1 (wOf z.2.1 0:Nat) (z.2.2:Nat) 1
noncomputable def pN (z:Tz3):Bool:=C8m z.2.1 z.1 (wOf z.2.1 0:Nat) (z.2.2:Nat) (-1)
noncomputable def pA (z:Nat × Nat × Nat):Bool:=F1t z.1 z.2.1 z.2.2
noncomputable def fcN {α:Type} (n:Nat) (f:Nat → α):α:=@Nat.rec (fun _=>α) (f 0) (fun k J=>f (Nat.succ k)) n
theorem B6d {α:Type} (n:Nat) (f:Nat → α):fcN n f = f n:=by cases n <;> rfl
noncomputable def fcL {α:Type} (l:List Nat):(List Nat → α) → α:=@List.rec Nat (fun _=>(List Nat → α) → α) (fun f=>f []) (fun a t ih f=>fcN a fun a=>ih fun t=>f (a :: t)) l
theorem D2p {α:Type}:∀ (l:List Nat) (f:List Nat → α),fcL l f = f l
 | [],f=>rfl
 | a :: t,f=>by
  show fcN a (fun a=>fcL t fun t=>f (a :: t)) = _
  rw [B6d,D2p]
noncomputable def fcZ (z:Tz3) (q:Nat → List Nat → Nat → Nat → Bool):Bool:=fcN z.1 fun s=>fcL z.2.1 fun row=>fcN (wOf row 0) fun W=>fcN z.2.2 fun k=>q s row W k
theorem C7y (z:Tz3) (q:Nat → List Nat → Nat → Nat → Bool):q z.1 z.2.1 (wOf z.2.1 0) z.2.2 = fcZ z q:=by
 show _ = fcN z.1 fun s=>fcL z.2.1 fun row=>fcN (wOf row 0) fun W=>fcN z.2.2 fun k=>q s row W k
 rw [B6d,D2p,B6d,B6d]
noncomputable def qB (z:Tz3):Bool:=fcZ z fun s row W k=>F1s row s (Int.ofNat W) (Int.ofNat k)
noncomputable def qI (z:Tz3):Bool:=fcZ z fun s row W k=>C8m row s (Int.ofNat W) k 1
noncomputable def qN (z:Tz3):Bool:=fcZ z fun s row W k=>C8m row s (Int.ofNat W) k (-1)
noncomputable def qA (z:Nat × Nat × Nat):Bool:=fcN z.1 fun s=>fcN z.2.1 fun r=>fcN z.2.2 fun b=>F1t s r b
theorem qB_eq (z:Tz3):pB z = qB z:=C7y z fun s row W k=>F1s row s (Int.ofNat W) (Int.ofNat k)
theorem qI_eq (z:Tz3):pI z = qI z:=C7y z fun s row W k=>C8m row s (Int.ofNat W) k 1
theorem qN_eq (z:Tz3):pN z = qN z:=C7y z fun s row W k=>C8m row s (Int.ofNat W) k (-1)
theorem qA_eq (z:Nat × Nat × Nat):pA z = qA z:=by
 show _ = fcN z.1 fun s=>fcN z.2.1 fun r=>fcN z.2.2 fun b=>F1t s r b
 rw [B6d,B6d,B6d]
 rfl
noncomputable abbrev pce {α:Type} (l:List α) (q:α → Bool) (j:Nat):Bool:=((l.drop (8 * j)).take 8).all q
noncomputable def D3l (P:Nat → Bool):Nat → Nat → Prop
 | J,0=>True
 | i,n + 1=>P i = true ∧ D3l P (i + 1) n
theorem B8t {P:Nat → Bool}:∀ {n i k:Nat},D3l P i n → k < n → P (i + k) = true
 | n + 1,i,0,h,hk=>h.1
 | n + 1,i,k + 1,h,hk=>by
  have:=B8t (k:=k) h.2 (Nat.lt_of_succ_lt_succ hk)
  rw [show i + (k + 1) = i + 1 + k from (Nat.succ_add i k).symm]; exact this
theorem D3k {α:Type} {l:List α} {q:α → Bool} {n:Nat} (h:D3l (pce l q) 0 n) (hn:l.length ≤ 8 * n) {x:α} (hx:x ∈ l):q x = true:=by
 obtain ⟨i,hi,rfl⟩:=List.mem_iff_getElem.mp hx
 have hj:i / 8 < n:=Nat.div_lt_of_lt_mul (Nat.lt_of_lt_of_le hi hn)
 have:=B8t h hj
 rw [Nat.zero_add] at this
 refine List.all_eq_true.mp this _ (List.mem_iff_getElem?.mpr ⟨i % 8,?_⟩)
 rw [List.getElem?_take,if_pos (Nat.mod_lt _ (by decide)),List.getElem?_drop,Nat.div_add_mod,List.getElem?_eq_getElem hi]
theorem C6v {f:Nat → List Nat → List Nat} {s k:Nat} {row:List Nat} (hs:s = 3 ∨ s = 4 ∨ s = 5) (hr:row ∈ B1w s) (hk:k ∈ f s row):(s,row,k) ∈ L3 f :=
 List.mem_flatMap.mpr ⟨s,by rcases hs with rfl | rfl | rfl <;> decide,List.mem_flatMap.mpr ⟨row,hr,List.mem_map.mpr ⟨k,hk,rfl⟩⟩⟩
theorem D8o {s r b:Nat} (hs:s = 3 ∨ s = 4 ∨ s = 5) (hr:r < 8) (hb:b < 2 ^ s):(s,r,b) ∈ LA :=
 List.mem_flatMap.mpr ⟨s,by rcases hs with rfl | rfl | rfl <;> decide,List.mem_flatMap.mpr ⟨r,List.mem_range.mpr hr,List.mem_map.mpr ⟨b,List.mem_range.mpr hb,rfl⟩⟩⟩
theorem lenN:LN.length = 122:=by decide +kernel
theorem lenA:LA.length = 448:=by decide +kernel
/- the rows as numbers,with their ways; a piece: some residues of one row -/
noncomputable def rowX (k:Nat):Nat → List Tn3:=@Nat.rec (fun _=>Nat → List Tn3) (fun J=>[]) (fun J ih x=>(Nat.mod x 8,Nat.mod (Nat.div x 8) 1024,Nat.mod (Nat.div x 8192) 128) :: ih (Nat.div x 1048576)) k
noncomputable def rowN:List Tn3:=rowX 61 235084275546150502953473395939097784181698976291833881550820541278592503183379643810414289941586759448071847513484070073727418843537956250264465372536859783904246103057245472102344932969489907063879784896723054340285171165090838832231024066213443197513164203060281977524154247908696602747185320723526967711432638041775459734788258388156495077545870804687451480703427
noncomputable def D1w (k:Nat):Nat → List Nat:=@Nat.rec (fun _=>Nat → List Nat) (fun J=>[]) (fun J ih n=>@Bool.rec (fun _=>Nat) 40 41 (Nat.beq (Nat.mod n 2) 1) :: ih (Nat.div n 2)) k
noncomputable def F1i (y:Tn3) (n:Nat):Nat → List Tz3:=@Nat.rec (fun _=>Nat → List Tz3) (fun J=>[]) (fun J ih k=>@Bool.rec (fun _=>List Tz3) [] ((y.1,D1w (2 * y.1) y.2.1,k) :: ih (.succ k)) (Nat.blt k y.2.2)) n
noncomputable def nP (d:Nat) (y:Tn3):Nat:=Nat.div (Nat.add y.2.2 d) (.succ d)
noncomputable def F1h (d:Nat) (l:List Tn3):Nat → List Tz3:=@List.rec Tn3 (fun _=>Nat → List Tz3) (fun J=>[]) (fun y t ih j=>@Bool.rec (fun _=>List Tz3) (ih (Nat.sub j (nP d y))) (F1i y (.succ d) (Nat.mul (.succ d) j)) (Nat.blt j (nP d y))) l
noncomputable def tot (d:Nat) (l:List Tn3):Nat:=@List.rec Tn3 (fun _=>Nat) 0 (fun y t ih=>nP d y + ih) l
noncomputable abbrev pcz (d:Nat) (q:Tz3 → Bool) (j:Nat):Bool:=(F1h d rowN j).all q
theorem D4i:rowN.map (fun y=>(y.1,D1w (2 * y.1) y.2.1)) = [3,4,5].flatMap fun s=>(B1w s).map fun row=>(s,row):=by decide +kernel
theorem D7y:(rowN.all fun y=>Nat.beq (wOf (D1w (2 * y.1) y.2.1) 0) y.2.2) = true:=by decide +kernel
theorem C2k {y:Tn3}:∀ (n a k:Nat),a ≤ k → k < a + n → k < y.2.2 → (y.1,D1w (2 * y.1) y.2.1,k) ∈ F1i y n a
 | 0,a,k,h1,h2,h3=>absurd h2 (Nat.not_lt.mpr h1)
 | n + 1,a,k,h1,h2,h3=>by
  show _ ∈ @Bool.rec (fun _=>List Tz3) [] ((y.1,D1w (2 * y.1) y.2.1,a) :: F1i y n (a + 1)) (Nat.blt a y.2.2)
  rw [show Nat.blt a y.2.2 = true from Nat.ble_eq_true_of_le (Nat.lt_of_le_of_lt h1 h3)]
  exact (Nat.eq_or_lt_of_le h1).elim (fun e=>e ▸ .head _) fun h=>.tail _ (C2k n (a + 1) k h (by rw [Nat.succ_add]; exact h2) h3)
theorem C2i {d:Nat} {q:Tz3 → Bool}:∀ {l:List Tn3},(∀ j,j < tot d l → (F1h d l j).all q = true) → ∀ y ∈ l,∀ k,k < y.2.2 → q (y.1,D1w (2 * y.1) y.2.1,k) = true
 | [],h,y,hy,k,hk=>absurd hy List.not_mem_nil
 | z :: l,h,y,hy,k,hk=>by
  have sk:∀ j b,Nat.blt j (nP d z) = b → F1h d (z :: l) j = @Bool.rec (fun _=>List Tz3) (F1h d l (j - nP d z)) (F1i z (d + 1) ((d + 1) * j)) b:=fun j b e=>e ▸ rfl
  refine (List.mem_cons.mp hy).elim (fun e=>?_) fun hy=>?_
  ·subst e
   have h1:k / (d + 1) < nP d y:=by
    have e:=Nat.div_le_div_right (c:=d + 1) (show k + (d + 1) ≤ y.2.2 + d from Nat.le_trans (Nat.le_of_eq (Nat.succ_add k d).symm) (Nat.add_le_add_right hk d))
    rw [Nat.add_div_right k (Nat.succ_pos d)] at e
    exact e
   have:=h (k / (d + 1)) (Nat.lt_of_lt_of_le h1 (Nat.le_add_right _ _))
   rw [sk _ true (Nat.ble_eq_true_of_le h1)] at this
   exact List.all_eq_true.mp this _ (C2k (d + 1) _ k (Nat.mul_div_le k (d + 1)) (Nat.lt_mul_div_succ k (Nat.succ_pos d)) hk)
  ·refine C2i (d:=d) (fun j hj=>?_) y hy k hk
   have:=h (nP d z + j) (Nat.add_lt_add_left hj _)
   rw [sk _ false (Bool.eq_false_iff.mpr fun e=>absurd (nYY e) (Nat.not_lt.mpr (Nat.le_add_right (nP d z) j))),Nat.add_sub_cancel_left] at this
   exact this
theorem C4a {d n:Nat} {q:Tz3 → Bool} (h:D3l (pcz d q) 0 n) (hn:tot d rowN = n) {z:Tz3} (hz:z ∈ LB):q z = true:=by
 obtain ⟨s,hs,hz⟩:=List.mem_flatMap.mp hz
 obtain ⟨row,hr,hz⟩:=List.mem_flatMap.mp hz
 obtain ⟨k,hk,e⟩:=List.mem_map.mp hz
 obtain ⟨y,hy,e1⟩:=List.mem_map.mp (D4i ▸ List.mem_flatMap.mpr ⟨s,hs,List.mem_map.mpr ⟨row,hr,rfl⟩⟩:(s,row) ∈ rowN.map fun y=>(y.1,D1w (2 * y.1) y.2.1))
 have hw:=Nat.eq_of_beq_eq_true (List.all_eq_true.mp D7y y hy)
 have e2:D1w (2 * y.1) y.2.1 = row:=congrArg Prod.snd e1
 rw [e2] at hw
 have:=C2i (d:=d) (fun j hj=>by have:=B8t (i:=0) h (hn ▸ hj); rw [Nat.zero_add] at this; exact this) y hy k (hw ▸ List.mem_range.mp hk)
 rw [e2,show y.1 = s from congrArg Prod.fst e1] at this
 exact e ▸ this
theorem tot4:tot 3 rowN = 278:=by decide +kernel
theorem tot8:tot 7 rowN = 157:=by decide +kernel
theorem posB:([3,4,5].all fun s=>(B1w s).all fun row=>Nat.blt 0 (wOf row 0)) = true:=by decide +kernel
end Ab
end
section
set_option backward.match.sparseCases false
set_option maxRecDepth 1000000
namespace Ab
open Mine (Pr)
noncomputable def EndL (G:Heap) (os0:OsState) (fl:Flow) (s':Shared):Prop :=
 fl = .ret (.bool true) ∧ (∀ b o,G.get? b = some o → s'.heap.get? b = some o) ∧ s'.os = os0 ∧ AllBare s'.gens ∧ GrownAll [(41,37),(34,30),(125,121)] s'.heap
theorem EndL.go {G:Heap} {o1 o2:OsState} {fl:Flow} {s':Shared} (h:EndL G o1 fl s') (e:o1 = o2):EndL G o2 fl s':=e ▸ h
noncomputable abbrev De (w:World) (D:Gd) (θ:Nat → Int) (y:List Nat):Gd:=⟨θ,LXe w y,D.b0,D.P⟩
noncomputable def thB (n:Int) (W:Int) (cs y:List Nat):Nat → Int:=fun i=>if i = 0 then n else if i = 5 then n.fdiv W else if i = 21 then (B8l y:Int) else ((cs.getD (i - 10) (200 + i):Nat):Int)
theorem C9k {n W:Int} {cs y:List Nat} {i:Nat} (h1:10 ≤ i) (h2:i ≤ 14):thB n W cs y i = ((cs.getD (i - 10) (200 + i):Nat):Int):=by
 unfold thB
 (refine eqQ (if_neg (by omega)) ?_; refine eqQ (if_neg (by omega)) ?_; exact eqQ (if_neg (by omega)) rfl)
theorem B3i {cs:List Nat} (hc:∀ c ∈ cs,c < 128) {k d:Nat} (h:k < cs.length):cs.getD k d = cs[k] ∧ cs[k] < 128:=by
 (refine eqQ (List.getD_eq_getElem?_getD) ?_; refine eqQ (List.getElem?_eq_getElem h) ?_)
 exact ⟨rfl,hc _ (List.getElem_mem h)⟩
theorem C1g {cs:List Nat} {k d:Nat} (h:¬ k < cs.length):cs.getD k d = d:=by
 (refine eqQ (List.getD_eq_getElem?_getD) ?_; refine eqQ (List.getElem?_eq_none (Nat.not_lt.mp h)) ?_); rfl
theorem D0a {n W:Int} {cs y:List Nat} (hn:cs.Nodup) (hc:∀ c ∈ cs,c < 128):NmOk (thB n W cs y) where
 ne:=fun i j a1 a2 b1 b2 ne e=>by
  rw [C9k a1 a2,C9k b1 b2] at e
  have e:=Int.ofNat.inj e
  by_cases hi:i - 10 < cs.length
  ·rw [(B3i hc hi).1] at e
   have h1:=(B3i hc (d:=0) hi).2
   by_cases hj:j - 10 < cs.length
   ·rw [(B3i hc hj).1] at e
    have:=(List.getElem_inj hn).mp e
    omega
   ·rw [C1g hj] at e; omega
  ·rw [C1g hi] at e
   k_extra "fG"; by_cases hj:j - 10 < cs.length
   ·replace e:=((B3i hc hj).1) ▸ e
    have h1:=(B3i hc (d:=0) hj).2
    omega
   ·rw [C1g hj] at e; omega
 pos:=fun i a1 a2=>by (refine eqQ (C9k a1 a2) ?_); exact Int.natCast_nonneg _
theorem B9o {θ θ':Nat → Int} {c c':Cfg}:∀ {cs:List Nat} {s:Nat} {us:List Value},VRs θ c (cs.map fun x=>.str [x]) us → (∀ k,k < cs.length → θ' (10 + (s + k)) = ((cs.getD k 0:Nat):Int)) → VRs θ' c' ((List.range' s cs.length).map fun i=>.pc [.var (10 + i)]) us
 | [],s,us,h,hk=>by refine vN h ?_; exact .nil
 | x :: cs,s,us,h,hk=>by
  refine vC h fun _ _ r rs=>?_
  ·have k0:θ' (10 + s) = (x:Int):=hk 0 (Nat.succ_pos _)
   refine .cons ?_ (B9o (s:=s + 1) rs fun k h=>?_)
   ·have e:B1o θ' [.var (10 + s)] = [x]:=by
     show [(θ' (10 + s)).toNat] ++ [] = [x]
     (refine eqQ k0 ?_); rfl
    show SOk (B1o θ' [.var (10 + s)]) ∧ ∃ t,_ = Value.str ⟨(B1o θ' [.var (10 + s)]).toArray⟩ t
    (refine eqQ e ?_); exact r
   ·have:=hk (k + 1) (Nat.succ_lt_succ h)
    (refine eqQ (show s + 1 + k = s + (k + 1) by omega) ?_)
    exact this
section
variable {w:World} {D D':Gd} {A:Around} {env:Env} {c c':Cfg} {s:Nat} {row y:List Nat}
theorem orN {k:Nat} (hL:D.LX = LXm w) (hE:D'.LX = LXe w y) (hk:(y.drop k).all ws0 = true) {a:Addr} {e:List (Addr × Obj)} (r:OR D c (.lex y k []) a e):OR D' c' (.lex [] 0 []) a e:=by
 k_extra "fG"; obtain ⟨h1,h2,h3,pvs,rv,hlx⟩:=r
 (clear h3; cases rv)
 replace hlx:=hL ▸ hlx
 (refine B8y hlx fun k0 a1 a2 a3=>?_)
 refine ⟨⟨Nat.zero_le _,fun c h=>absurd h List.not_mem_nil⟩,Nat.zero_le _,Nat.le_refl _,[],.nil,?_⟩
 (refine eqQ hE ?_)
 refine ⟨rfl,rfl,h1,k0,a1,.inr ⟨rfl,?_⟩,a3⟩
 rcases a2 with rfl | ⟨_,hw⟩
 ·exact hk
 ·exact hw
theorem orB (hL:D'.LX = LXm w) (hE:D.LX = LXe w y) {a:Addr} {e:List (Addr × Obj)} (r:OR D c (.lex [] 0 []) a e):OR D' c' (.lex y y.length []) a e:=by
 k_extra "fG"; obtain ⟨_,_,_,pvs,rv,hx⟩:=r
 replace hx:=hE ▸ hx
 (refine x0a4 hx fun _ _ hy hlx=>?_)
 (clear hx; cases rv)
 exact ⟨hy,Nat.zero_le _,Nat.le_refl _,[],.nil,by (refine eqQ hL ?_); exact hlx⟩
theorem stepC (g:Gr w D) (hP:D.P = w.params) (hL:D.LX = LXm w) (hc:chkC y = true) (I:Inv D c) (F:FR D c env lyL (fmC y)) (K:AOk D A 40 c env) (hH:c.H = mkS (osC y)) :
  wpAny (model Pr w) A (execs (bodyL.drop 14) env) (EndL D.b0 c.s.os) Nev c.s:=by
 k_extra "fG"; refine B5t hc (fun x hx h=>B1b h fun hb h=>B1b h fun t0 h=>B1b h fun t1 h=>B1b h fun t2 hn=>?_) fun _ h=>fT h
 have hr:=C6a hx
 rw [hb] at hr
 refine wpAny_mono ((B2m (wdC g hP hL) 100000).ex lyL env (fmC y) c A 60 _ stC _ _ _ D7r (by (refine eqQ hH ?_); exact hr) I F K) (fun fw s1 hq=>?_) Mine.idE
 obtain ⟨_,c',rfl,hH',I',S',F',u,e98,ru⟩:=hq
 refine eqQ e98 ?_
 have gt:∀ {i a:Nat},D7n a (x.2.2.get i) = true → i < x.2.2.n → GrownAt a c'.s.heap:=fun {i a} h hi=>by
  obtain ⟨k,e⟩:=D3v h
  exact C5o I' (by (refine eqQ hH' ?_); exact hi) (by (refine eqQ hH' ?_); exact e)
 have hn:=B3b hn
 exact ⟨congrArg Flow.ret ru,I'.stat,S'.os,I'.gens,gt t2 hn,gt t1 (Nat.lt_trans (by decide) hn),gt t0 (Nat.lt_trans (by decide) hn),trivial⟩
theorem bd9:bodyL.drop 9 = (bodyL.drop 9).take 5 ++ bodyL.drop 14:=rfl
theorem bd4:bodyL.drop 4 = (bodyL.drop 4).take 5 ++ bodyL.drop 9:=rfl
theorem bd3:bodyL.drop 3 = (bodyL.drop 3).take 1 ++ bodyL.drop 4:=rfl
theorem stepE {m:Nat} {W r:Int} (g:Gr w D) (hP:D.P = w.params) (hL:D.LX = LXe w y) (HC1:CodeHd D.b0 34 30) (HC2:CodeHd D.b0 41 37) (AF:AfOk D.θ W r) (q5:(D.θ 5).natAbs ≤ 200) (N:NmOk D.θ) (hW:0 < W) (hm:m ≤ 5)
  (hT:∀ side (k:Nat),okK side W k = true → (k:Int) < W → C8m row m W k side = true) (hb:F1s row m W r = true) (hc:chkC y = true) (hy:∀ a ∈ y,a < 0x110000) (e21:D.θ 21 = (B8l y:Int)) (I:Inv D c) (F:FR D c env lyL (fmB row)) (K:AOk D A 40 c env) (hH:c.H = mkS (osB m)) :
  wpAny (model Pr w) A (execs (bodyL.drop 9) env) (EndL D.b0 c.s.os) Nev c.s:=by
 refine B5t hb (fun p hp h=>B1b h fun t0 h=>B1b h fun t1 h=>B1b h fun t2 h=>B1b h fun gl h=>B1b h fun k5 h=>B1b h fun g6 h=>B1b h fun e6 h=>B1b h fun ec h=>B1b h fun hn hd=>?_) fun _ h=>fT h
 (refine eqQ bd9 ?_)
 refine B1s (wpAny_mono (stepB g hP hL HC1 HC2 AF q5 N hW hm hT hp I F K hH) (fun fw s1 hq=>?_) Mine.idE)
 obtain ⟨_,c1,rfl,h1,I1,S1,F1,e98⟩:=hq
 have e98:fw = .next:=e98
 refine eqQ e98 ?_
 show wpAny (model Pr w) A (execs _ env) _ Nev c1.s
 have hn:=B3b hn
 have ec:=of_decide_eq_true ec
 rw [← h1] at t0 t1 t2 gl k5 g6 hn
 k_extra "fG"; have K1:=K.step S1 (.inr rfl)
 have lt:∀ {i},Nat.ble i 6 = true → i < c1.H.n:=fun h=>Nat.lt_of_le_of_lt (nYY h) hn
 k_extra "fG"; obtain ⟨I2,F2,K2⟩:=C2m (D':=Dm w D D.θ) (wh:=[0,1,2,4,5,6]) (os:=osC y) (f0:=fmC y) I1 F1 K1 rfl (by decide) (ltL (m:=6) hn rfl)
  (.cons (I1.at' (B1e t0) (lt rfl)) (.cons (I1.at' (B1e t1) (lt rfl)) (.cons (I1.at' (B1e t2) (lt rfl)) (.cons (orB (D':=Dm w D D.θ) rfl hL (I1.at' (C0y gl) (lt rfl))) (.cons (B1x k5 (I1.rel 5 (lt rfl))) (.cons (B8q (I1.at' (C8p g6) (lt rfl)) (B5o rfl rfl)) .nil))))))
  (.no (.no (.no (.no (.no (.no (.yes ⟨_,B1h (decV e6),fun u h=>C3y (θ:=D.θ) (θ':=D.θ) (i:=21) hy e21 h⟩ (.no (.no (.no (.no (.no (.no (.no (.no (.no (.no (.no .nil)))))))))))))))))) rfl ec
 exact wpAny_mono (stepC (w:=w) (D:=Dm w D D.θ) (c:=c1.rc [0,1,2,4,5,6] (osC y)) ⟨g.top,g.X⟩ hP rfl hc I2 F2 K2 rfl) (fun fl s h=>EndL.go h S1.os) Mine.B6o
noncomputable abbrev whB (a b:Nat):List Nat:=[0,1,2,a,b,4,5]
theorem D3o {a i:Nat} (h:i ∈ whS a):i = a ∨ i ≤ 5 :=
 (List.mem_cons.mp ((List.perm_middle (l₁:=[0,1,2]) (a:=a) (l₂:=[4,5])).mem_iff.mp h)).imp_right fun h=>Nat.le_of_lt_succ (ltL (m:=5) (n:=6) (by decide) rfl _ h)
theorem D7h {a b:Nat} (ha:5 < a) (hb:5 < b) (ne:a ≠ b):(whB a b).Nodup:=by
 refine (List.perm_middle (l₁:=[0,1,2]) (a:=a) (l₂:=[b,4,5])).nodup_iff.mpr (List.nodup_cons.mpr ⟨fun h=>?_,D1n hb⟩)
 rcases D3o (a:=b) h with h | h
 ·exact ne h
 ·exact absurd h (Nat.not_le.mpr ha)
theorem D7i {a b n:Nat} (ha:a < n) (hb:b < n) (h5:5 < b):∀ i ∈ whB a b,i < n:=fun i hi =>
 (List.mem_cons.mp ((List.perm_middle (l₁:=[0,1,2]) (a:=a) (l₂:=[b,4,5])).mem_iff.mp hi)).elim (fun e=>e ▸ ha) fun h=>D1o hb h5 i h
theorem backA (h5:s ≤ 5) {f:Fm} {H:St} {W:Int} {o:Option (Flo × Fm × St)} {z:List Nat × List Nat × Nat × Nat × Nat} (E:EndA s o z) (eo:o = some (.nxt,f,H)) (hL:D.LX = LXm w) (e20:D.θ 20 = (B8l row:Int)) (hx:∀ a ∈ row,a < 0x110000) (hH:c.H = H) (I:Inv D c) (F:FR D c env lyL f) (K:AOk D A 40 c env) :
  Inv (De w D (thB (D.θ 0) W z.2.1 z.1) z.1) (c.rc (whB z.2.2.1 z.2.2.2.1) (osB s)) ∧ FR (De w D (thB (D.θ 0) W z.2.1 z.1) z.1) (c.rc (whB z.2.2.1 z.2.2.2.1) (osB s)) env lyL (fmB row) ∧ AOk (De w D (thB (D.θ 0) W z.2.1 z.1) z.1) A 40 (c.rc (whB z.2.2.1 z.2.2.2.1) (osB s)) env:=by
 k_extra "fG"; subst hH
 obtain ⟨f0,H0,e0,e6,e7,g7,g5,gl,hk,t0,t1,t2,k4,l7,ll,ne,n7,nl,e2,e4,ec,hd,hl,hn,hc,hy⟩:=E
 have e:=oYY (eo.symm.trans e0)
 have ef:=(Prod.mk.inj (Prod.mk.inj e).2).1
 have eH:=(Prod.mk.inj (Prod.mk.inj e).2).2
 (clear e; (clear e0; subst ef eH hl))
 have lt:∀ {i},Nat.ble i 5 = true → i < c.H.n:=fun h=>Nat.lt_of_le_of_lt (nYY h) (Nat.lt_trans ll nl)
 refine C2m I F K rfl (D7h l7 ll ne) (D7i n7 nl ll) ?_ ?_ rfl ec
 ·refine .cons (I.at' t0 (lt rfl)) (.cons (I.at' t1 (lt rfl)) (.cons (I.at' t2 (lt rfl)) (.cons ?_ (.cons (orN hL rfl hk (I.at' gl nl)) (.cons (B1x k4 (I.rel 4 (lt rfl))) (.cons (B8q (I.at' g5 (lt rfl)) (B5o rfl rfl)) .nil))))))
  k_extra "fG"; obtain ⟨hl,vs,k,e,rs⟩:=I.at' g7 n7
  refine ⟨by unfold nmV; rw [List.length_map,List.length_range]; rw [List.length_map] at hl; exact hl,vs,k,e,?_⟩
  show VRs _ _ ((List.range z.2.1.length).map fun i=>AV.pc [.var (10 + i)]) vs
  (refine eqQ List.range_eq_range' ?_)
  refine B9o (s:=0) rs fun k hk=>?_
  rw [Nat.zero_add]
  show thB (D.θ 0) W z.2.1 z.1 (10 + k) = _
  rw [C9k (Nat.le_add_right _ _) (by omega),Nat.add_sub_cancel_left,(B3i hc hk).1,(B3i hc hk).1]
 ·exact .no (.no (.yes ⟨_,e2,fun u h=>h⟩ (.no (.yes ⟨_,e4,fun u h=>C3y (θ:=D.θ) (i:=20) hx e20 h⟩ (.no (.yes ⟨_,e6,fun u h=>C8u (θ':=thB (D.θ 0) W z.2.1 z.1) (i:=21) rfl h⟩ (.yes ⟨_,e7,B5o rfl rfl⟩ (.no (.no (.no (.no (.no (.no (.no (.no (.no (.no .nil)))))))))))))))))
end
end Ab
end
section
set_option backward.match.sparseCases false
set_option maxRecDepth 1000000
namespace Ab
open Mine (Pr)
structure Tabs:Prop where
 a:∀ z ∈ LA,pA z = true
 b:∀ z ∈ LB,pB z = true
 i:∀ z ∈ LB,pI z = true
 n:∀ z ∈ LN,pN z = true
theorem chB:([3,4,5].all fun s=>(B1w s).all fun row=>row.all fun a=>Nat.blt a 128) = true:=by decide +kernel
theorem all3 {q:Nat → List Nat → Bool} (h:([3,4,5].all fun s=>(B1w s).all (q s)) = true) {s:Nat} (hs:s = 3 ∨ s = 4 ∨ s = 5) {row:List Nat} (hr:row ∈ B1w s):q s row = true :=
 List.all_eq_true.mp (List.all_eq_true.mp h s (by rcases hs with rfl | rfl | rfl <;> decide)) row hr
theorem D8j {side W:Int} {k:Nat} (h:okK side W k = true):side = 1 ∨ (side = -1 ∧ (k = 0 ∨ (k:Int) + 1 = W)):=by
 unfold okK at h
 rcases (Bool.or_eq_true _ _).mp h with h | h
 ·exact .inl (of_decide_eq_true h)
 ·refine B1b h fun a b=>.inr ⟨of_decide_eq_true a,?_⟩
  rcases (Bool.or_eq_true _ _).mp b with h | h
  ·exact .inl (Nat.eq_of_beq_eq_true h)
  ·exact .inr (of_decide_eq_true h)
theorem Tabs.hT (T:Tabs) {s:Nat} (hs:s = 3 ∨ s = 4 ∨ s = 5) {row:List Nat} (hr:row ∈ B1w s) (side:Int) (k:Nat) (h:okK side (wOf row 0:Nat) k = true) (hk:(k:Int) < (wOf row 0:Nat)):C8m row s (wOf row 0:Nat) k side = true:=by
 refine (D8j h).elim (fun e=>?_) fun ⟨e,h⟩=>?_
 ·(refine eqQ e ?_); exact T.i (s,row,k) (C6v hs hr (List.mem_range.mpr (Int.ofNat_lt.mp hk)))
 ·(refine eqQ e ?_)
  refine T.n (s,row,k) (C6v hs hr ?_)
  rcases h with h | h
  ·(refine eqQ h ?_); exact .head _
  ·(refine eqQ (show k = wOf row 0 - 1 by omega) ?_); exact .tail _ (.head _)
theorem D5s {n W:Int} (h1:-180 ≤ n) (h2:n < 181) (hW:0 < W):(n.fdiv W).natAbs ≤ 200:=by
 (refine eqQ (Int.fdiv_eq_ediv_of_nonneg _ (Int.le_of_lt hW)) ?_)
 have:=Int.natAbs_ediv_le_natAbs n W
 omega
section
variable {w:World} {D:Gd} {A:Around} {env:Env} {c:Cfg} {s n:Nat} {row:List Nat}
theorem stepA (T:Tabs) (g:Gr w D) (hP:D.P = w.params) (hL:D.LX = LXm w) (HC0:CodeHd D.b0 125 121) (HC1:CodeHd D.b0 34 30) (HC2:CodeHd D.b0 41 37) (h1:-180 ≤ D.θ 0) (h2:D.θ 0 < 181) (hs:s = 3 ∨ s = 4 ∨ s = 5) (hr:row ∈ B1w s) (e20:D.θ 20 = (B8l row:Int))
  (I:Inv D c) (F:FR D c env lyL (fmR s (some (.pc [.blob 20])))) (K:AOk D A 40 c env) (hH:c.H = mkS osR):wpAny (model Pr w) A (execs (bodyL.drop 4) env) (EndL D.b0 c.s.os) Nev c.s:=by
 have q1:=Int.fmod_nonneg_of_pos (D.θ 3) (b:=8) (by decide)
 have q2:=Int.fmod_lt_of_pos (D.θ 3) (b:=8) (by decide)
 have hp:(0:Int) < ((2 ^ s:Nat):Int):=Int.natCast_pos.mpr (Nat.pow_pos (by decide))
 have q3:=Int.fmod_nonneg_of_pos ((D.θ 3).fdiv 8) hp
 have q4:=Int.fmod_lt_of_pos ((D.θ 3).fdiv 8) hp
 obtain ⟨r,k1⟩:∃ r:Nat,(D.θ 3).fmod 8 = (r:Int):=⟨_,(Int.toNat_of_nonneg q1).symm⟩
 obtain ⟨b,k2⟩:∃ b:Nat,((D.θ 3).fdiv 8).fmod ((2 ^ s:Nat):Int) = (b:Int):=⟨_,(Int.toNat_of_nonneg q3).symm⟩
 rw [k1] at q2
 rw [k2] at q4
 have hA:F1t s r b = true:=T.a (_,_,_) (D8o hs (Int.ofNat_lt.mp q2) (Int.ofNat_lt.mp q4))
 refine B5t hA (fun z hz hc=>?_) fun _ h=>fT h
 have E:=D5z hz
 obtain ⟨f,H,eo⟩:∃ f H,(run (cxA (lstA s r b)) 100000).ex stA (fmR s (some (.pc [.blob 20]))) (mkS osR) = some (.nxt,f,H):=by
  obtain ⟨f,H,eo,_⟩:=E
  exact ⟨f,H,eo⟩
 (refine eqQ bd4 ?_)
 refine B1s (wpAny_mono ((B2m (wdA g hP hL HC0 (fA_ok k1 k2)) 100000).ex lyL env _ c A 60 _ stA _ _ _ D7s (by (refine eqQ hH ?_); exact eo) I F K) (fun fw s1 hq=>?_) Mine.idE)
 obtain ⟨_,c1,rfl,hH1,I1,S1,F1,e98⟩:=hq
 have e98:fw = .next:=e98
 refine eqQ e98 ?_
 show wpAny (model Pr w) A (execs _ env) _ Nev c1.s
 k_extra "fG"; have hch:∀ a ∈ row,a < 0x110000:=fun a ha=>Nat.lt_trans (B3b (List.all_eq_true.mp (all3 chB hs hr) a ha)) (by decide)
 k_extra "fG"; have hW:(0:Int) < (wOf row 0:Nat):=Int.natCast_pos.mpr (B3b (all3 posB hs hr))
 k_extra "fG"; (refine C5f (backA (w:=w) (row:=row) (W:=(wOf row 0:Nat)) (by omega) E eo hL e20 hch hH1 I1 F1 (K.step S1 (.inr rfl))) fun I2 F2 K2=>?_)
 obtain ⟨v,hrr⟩:∃ v:Nat,(D.θ 0).fmod (wOf row 0:Nat) = (v:Int):=⟨_,(Int.toNat_of_nonneg (Int.fmod_nonneg_of_pos _ hW)).symm⟩
 have hrl:=Int.fmod_lt_of_pos (D.θ 0) hW
 rw [hrr] at hrl
 have hq5:=D5s h1 h2 hW
 obtain ⟨f0,H0,e0,e6,e7,g7,g5,gl,hk,t0,t1,t2,k4,l7,ll,ne,n7,nl,e2,e4,ec,hd,hl,hn,hcs,hy⟩:=E
 refine wpAny_mono (stepE (w:=w) (D:=De w D (thB (D.θ 0) (wOf row 0:Nat) z.2.1 z.1) z.1) (c:=c1.rc (whB z.2.2.1 z.2.2.2.1) (osB s)) (row:=row) (y:=z.1) (m:=s) (W:=(wOf row 0:Nat)) (r:=(v:Nat)) ⟨g.top,g.X⟩ hP rfl HC1 HC2 ⟨?_,Nat.le_trans hq5 (by decide)⟩ hq5 (D0a hn hcs) hW (by omega) (T.hT hs hr)
  (T.b (s,row,v) (C6v hs hr (List.mem_range.mpr (Int.ofNat_lt.mp hrl)))) hc (fun a ha=>Nat.lt_trans (hy a ha) (by decide)) rfl I2 F2 K2 rfl) (fun fl s h=>EndL.go h S1.os) Mine.B6o
 show D.θ 0 = (wOf row 0:Nat) * (D.θ 0).fdiv (wOf row 0:Nat) + _
 simp only [← hrr,Int.mul_fdiv_add_fmod]
theorem stepR (T:Tabs) (g:Gr w D) (hP:D.P = w.params) (hL:D.LX = LXm w) (HC0:CodeHd D.b0 125 121) (HC1:CodeHd D.b0 34 30) (HC2:CodeHd D.b0 41 37) (h1:-180 ≤ D.θ 0) (h2:D.θ 0 < 181) (hs:s = 3 ∨ s = 4 ∨ s = 5)
  (I:Inv D c) (F:FR D c env lyL (fmR s none)) (K:AOk D A 40 c env) (hH:c.H = mkS osR):wpAny (model Pr w) A (execs (bodyL.drop 3) env) (EndL D.b0 c.s.os) Nev c.s:=by
 have hp:(0:Int) < ((2 ^ (2 * s):Nat):Int):=Int.natCast_pos.mpr (Nat.pow_pos (by decide))
 have k2:(((D.θ 1).fmod ((2 ^ (2 * s):Nat):Int)).toNat:Int) = (D.θ 1).fmod ((2 ^ (2 * s):Nat):Int):=Int.toNat_of_nonneg (Int.fmod_nonneg_of_pos _ hp)
 obtain ⟨m,hm⟩:∃ m:Nat,(D.θ 1).fmod ((2 ^ (2 * s):Nat):Int) = (m:Int):=⟨_,k2.symm⟩
 obtain ⟨row,hrow⟩:∃ row,row = C4k s m (2 * s) 0 0:=⟨_,rfl⟩
 have hr:row ∈ B1w s:=by (refine eqQ hrow ?_); exact B7s s m (2 * s) 0 0
 have E:=D5x (D1e hs hr)
 obtain ⟨f,H,eo⟩:∃ f H,(run (cxR (lstR s row)) 100000).ex stR (fmR s none) (mkS osR) = some (.nxt,f,H):=by
  obtain ⟨f,H,eo,_⟩:=E
  exact ⟨f,H,eo⟩
 (refine eqQ bd3 ?_)
 refine B1s (wpAny_mono ((B2m (wdR g hP hL (hrow ▸ fR_ok hm)) 100000).ex lyL env _ c A 60 _ stR _ _ _ D7q (by (refine eqQ hH ?_); exact eo) I F K) (fun fw s1 hq=>?_) Mine.idE)
 obtain ⟨_,c1,rfl,hH1,I1,S1,F1,e98⟩:=hq
 have e98:fw = .next:=e98
 refine eqQ e98 ?_
 k_extra "fG"; show wpAny (model Pr w) A (execs _ env) _ Nev c1.s
 (refine C5f (backR (w:=w) E eo hH1 I1 F1 (K.step S1 (.inr rfl))) fun I2 F2 K2=>?_)
 exact wpAny_mono (stepA (w:=w) (D:=Dm w D (C4l D.θ row)) (c:=c1.rc [0,1,2,3,4,5] osR) T ⟨g.top,g.X⟩ hP rfl HC0 HC1 HC2 h1 h2 hs hr rfl I2 F2 K2 rfl) (fun fl s h=>EndL.go h S1.os) Mine.B6o
theorem stepS (T:Tabs) (g:Gr w D) (hP:D.P = w.params) (hL:D.LX = LXm w) (HC0:CodeHd D.b0 125 121) (HC1:CodeHd D.b0 34 30) (HC2:CodeHd D.b0 41 37) (I:Inv D c) (F:FR D c env lyL fmS) (K:AOk D A 40 c env) (hH:c.H = mkS (osS n)) (hn:n ≤ 63) :
  wpAny (model Pr w) A (execs bodyL env) (EndL D.b0 c.s.os) Nev c.s:=by
 (refine C0i (D6i (D1d hn)) fun f H hr hE=>?_)
 (refine eqR (List.take_append_drop 3 bodyL) ?_)
 refine B1s (wpAny_mono ((B2m (wdS g hP hL) 100000).ex lyL env fmS c A 60 _ stS _ _ _ D7p (by (refine eqQ hH ?_); exact hr) I F K) (fun fw s1 hq=>?_) Mine.idE)
 obtain ⟨hdep,c',rfl,hH',I',S',F',e98⟩:=hq
 have e98:fw = .next:=e98
 refine eqQ e98 ?_
 k_extra "fG"; show wpAny (model Pr w) A (execs _ env) _ Nev c'.s
 (refine x3a6 (backS (w:=w) hE hH' I' F' (K.step S' (.inr rfl))) fun θ' s wh h1 h2 hs I1 F1 K1=>?_)
 exact wpAny_mono (stepR (w:=w) (D:=Dm w D θ') (A:=A) (env:=env) (c:=c'.rc wh osR) (s:=s) T ⟨g.top,g.X⟩ hP rfl HC0 HC1 HC2 h1 h2 hs I1 F1 K1 rfl) (fun fl s h=>EndL.go h S'.os) Mine.B6o
end
end Ab
end
section
set_option backward.match.sparseCases false
namespace Ab
open Mine (Pr)
noncomputable abbrev es0 (L:Nat) (o1 o2:Obj):List (List (Addr × Obj)):=[[(121,tabObj #[])],[(30,tabObj #[])],[(37,tabObj #[])],[],[(L + 1,o1)],[(L + 1 + 1,o2)]]
theorem D9z {L:Nat} {o1 o2:Obj} (l0:121 < L):((es0 L o1 o2).flatten.map (·.1)).Nodup:=by
 show ([121,30,37,L + 1,L + 1 + 1]:List Nat).Nodup
 simp
 omega
section
variable {w:World} {G:Heap} {s:Shared} {A:Around} {env:Env} {L a:Nat} {m:Str → Option Value} {vs:List Value} {ns:List Int} {o1 o2:Obj}
theorem C7g (TT:Tabs) (T:∃ lo mean mg mb,Top topProg lo mean mg mb G) (X:(hd2.heap_39 w.params).In G) (HC2:CodeHd G 41 37) (HC1:CodeHd G 34 30) (HC0:CodeHd G 125 121) (F:Fr G L s.heap m)
  (N:News G L s.heap [(L + 1 + 1,o2),(L + 1,o1),(37,tabObj #[]),(30,tabObj #[]),(121,tabObj #[])])
  (l0:121 < L) (hm:m "script" = some (.ref a)) (hl:G.IsList a vs.toArray) (hI:IntsAre vs ns) (hn:ns.length ≤ 63) (hg:s.gens = #[])
  (d1:∃ u,o1.data = .cell u) (d2:∃ u,o2.data = .cell u)
  {dp un:Nat} {gd:Option (List Code)} (hA:A = ⟨Option.none,dp,some (env :: []),gd,un⟩) (hdp:dp + 140 < recursionLimit) (hun:un + 3 * 140 < cLine)
  (ef:env.frame = some L) (el:env.locals = L) (ek:env.scope.kind = .function) (en:env.scope.names = lyL.sc) (eg:env.globals = mainGlobals) (eb:env.builtins = builtinsNs)
  (ec:∀ (j:Nat) (x:Str),lyL.cels[j]? = some x → env.cells.lookup x = some (L + 1 + j)) :
  wpAny (model Pr w) A (execs bodyL env) (EndL G s.os) Nev s:=by
 have hlen:vs.length = ns.length:=Mine.B2s hI
 have sub:∀ p ∈ (es0 L o1 o2).flatten,p ∈ [(L + 1 + 1,o2),(L + 1,o1),(37,tabObj #[]),(30,tabObj #[]),(121,tabObj #[])]:=fun p h=>by
  have h:p ∈ [(121,tabObj #[]),(30,tabObj #[]),(37,tabObj #[]),(L + 1,o1),(L + 1 + 1,o2)]:=h
  simp only [List.mem_cons,List.not_mem_nil,or_false] at h ⊢
  rcases h with h | h | h | h | h <;> simp [h]
 have I:Inv ⟨fun n=>ns.getD (n - 10) 0,LXm w,G,w.params⟩ (D7d [121,30,37,a,L + 1,L + 1 + 1] (es0 L o1 o2) (osS ns.length) s (· = L)) :=
  inv3 (.cons ⟨rfl,rfl⟩ (.cons ⟨rfl,.inl rfl⟩ (.cons ⟨rfl,.inl rfl⟩ (.cons ⟨rfl,by rw [C2h]; exact Nat.le_trans hn (by decide),vs,hl,D3w hI 10 fun j Z=>by
   show ns.getD (10 + j - 10) 0 = _
   rw [Nat.add_sub_cancel_left]⟩ (.cons (cel0 d1) (.cons (cel0 d2) .nil)))))) (D9z l0) (fun p hp=>⟨(N p (sub p hp)).1,(N p (sub p hp)).2.2⟩) F.keep (hg ▸ .of_eq rfl)
 have uL:¬ Trk (D7d [121,30,37,a,L + 1,L + 1 + 1] (es0 L o1 o2) (osS ns.length) s (· = L)) L:=fun ⟨i,hi,p,hp,e⟩=>(N p (sub p (B2u hp))).2.1 e
 have hloc:LocL (fun i v=>∀ x,idxS x lyL.locs = some i → ∃ u,m x = some u ∧ VR (fun n=>ns.getD (n - 10) 0) (D7d [121,30,37,a,L + 1,L + 1 + 1] (es0 L o1 o2) (osS ns.length) s (· = L)) v u) 0 fmS.loc :=
  .yes (fun x h1=>by
   have hx:x = "script" := C7n (l:=lyL.locs.tail) h1
   refine eqQ hx ?_
   exact ⟨_,hm,C2t rfl,rfl⟩) (.no (.no (.no (.no (.no (.no (.no (.no (.no (.no (.no (.no (.no (.no (.no (.no (.no .nil)))))))))))))))))
 have FR0:FR ⟨fun n=>ns.getD (n - 10) 0,LXm w,G,w.params⟩ (D7d [121,30,37,a,L + 1,L + 1 + 1] (es0 L o1 o2) (osS ns.length) s (· = L)) env lyL fmS:=by
  refine ⟨ek,en,eg,eb,⟨m,by (refine eqQ el ?_); exact F.ns,fun i x v h1 h2=>hloc.get h2 x (by rw [Nat.zero_add]; exact h1)⟩,by (refine eqQ el ?_); exact uL,fun x j i h1 h2=>?_,by (refine eqQ el ?_); exact F.above⟩
  cases j with
  | zero =>
   have h2:=oYY h2
   refine eqR h2 ?_
   (refine eqQ (ec 0 x (B8g h1)) ?_)
   exact ⟨C2t rfl,rfl⟩
  | succ j =>
   cases j with
   | zero =>
    have h2:=oYY h2
    refine eqR h2 ?_
    (refine eqQ (ec 1 x (B8g h1)) ?_)
    exact ⟨C2t rfl,rfl⟩
   | succ j=>exact noP h2
 exact stepS (w:=w) (D:=⟨fun n=>ns.getD (n - 10) 0,LXm w,G,w.params⟩) TT ⟨T,X⟩ rfl rfl HC0 HC1 HC2 I FR0 ⟨env,[],L,dp,gd,un,hA,ef,ek,by omega,by omega,⟨m,F.ns⟩,uL,F.above,trivial,(fun e he=>(by first | exact noP he | exact fT he | exact nomatch he)),ef,rfl,(fun e he=>(by first | exact noP he | exact fT he | exact nomatch he)),fun x e=>by have e:x = L:=e; (refine eqQ e ?_); exact ⟨uL,m,F.ns⟩⟩ rfl hn
end
end Ab
end
section
set_option backward.match.sparseCases false
set_option maxRecDepth 1000000
namespace Ab
theorem kA:D3l (pce LA qA) 0 56:=by
 repeat (refine ⟨by decide +kernel,?_⟩)
 exact trivial
end Ab
end
section
set_option backward.match.sparseCases false
set_option maxRecDepth 1000000
namespace Ab
theorem kB:D3l (pcz 7 qB) 0 157:=by
 repeat (refine ⟨by decide +kernel,?_⟩)
 exact trivial
end Ab
end
section
set_option backward.match.sparseCases false
set_option maxRecDepth 1000000
namespace Ab
theorem kI:D3l (pcz 3 qI) 0 278:=by
 repeat (refine ⟨by decide +kernel,?_⟩)
 exact trivial
end Ab
end
section
set_option backward.match.sparseCases false
set_option maxRecDepth 1000000
namespace Ab
theorem kN:D3l (pce LN qN) 0 16:=by
 repeat (refine ⟨by decide +kernel,?_⟩)
 exact trivial
end Ab
end
section
namespace Ab
noncomputable def EndB (G:Heap) (s₁:Shared) (tabs:List (Addr × Addr)) (r:Result) (s':Shared):Prop :=
 r = .ok (.ret (.bool true)) ∧ (∀ b o,G.get? b = some o → s'.heap.get? b = some o) ∧ s'.os = s₁.os ∧ AllBare s'.gens ∧ GrownAll tabs s'.heap
theorem D0j {M:Model} {A:Around} {cd:Code} {s s₁:Shared} {cw:ClaimW} {cl:Str → Option Addr} {mean:ExcName → Option Value} {args:List WData} {tabs:List (Addr × Addr)} (hT:TabsAt tabs s₁.heap) (hr:∀ a x,cw.raises a x = false) (hp:cw.post args (.bool true) args = true)
  (h:codeAny M A cd (fun r s'=>EndB (ghostOf s₁.heap tabs) s₁ tabs r s') s):codeAny M A cd (GoodWG cw cl mean args s₁) s :=
 codeAny_mono h fun r s' z9=>by
  obtain ⟨hc,hk,hos,hg,hgr⟩:=z9
  subst hc
  refine ⟨.inl ⟨.bool true,.bool true,[],rfl,hr _,.bool true,hp,fun Z=>⟨List.nodup_nil,fun Z q=>by refine (let fG:Prop:=_; (?_:fG)); cases q⟩⟩,?_,hos,hg⟩
  have keep:∀ b o,b ∉ tabs.map (·.2) → s₁.heap.get? b = some o → s'.heap.get? b = some o:=fun b o hb e=>hk b o (ghost_ne e hb)
  have grown:∀ b o,b ∈ tabs.map (·.2) → s₁.heap.get? b = some o → isCodeTable s₁.heap b ∧ o = tabObj #[] ∧ ∃ ps,s'.heap.get? b = some (tabObj ps):=fun b o hb e=>by
   obtain ⟨q,hq,rfl⟩:=List.mem_map.mp hb
   have e2:=(hT q hq).2
   rw [e] at e2
   exact ⟨((hT q hq).1.tab (hT q hq).2).isCodeTable,oYY e2,hgr.get q hq⟩
  refine ⟨fun b o e=>?_,fun b o e=>?_⟩
  ·by_cases hb:b ∈ tabs.map (·.2)
   ·obtain ⟨ht,rfl,ps,hP⟩:=grown b o hb e
    exact .inr (.inl ⟨ht,rfl,#[],ps,rfl,by rw [Array.empty_append]; exact hP⟩)
   ·exact .inl (keep b o hb e)
  ·by_cases hb:b ∈ tabs.map (·.2)
   ·obtain ⟨_,_,ps,hP⟩:=grown b o hb e
    exact ⟨_,hP⟩
   ·exact ⟨o,keep b o hb e⟩
end Ab
end
section
namespace Ab
theorem D3u:Tabs:=⟨fun z h=>(qA_eq z).trans (D3k kA (Nat.le_of_eq lenA) h),fun z h=>(qB_eq z).trans (C4a kB tot8 h),fun z h=>(qI_eq z).trans (C4a kI tot4 h),fun z h=>(qN_eq z).trans (D3k kN (by rw [lenN]; decide) h)⟩
theorem law2_holds:PySem.Challenge.rw_wf0058_02.Holds:=by
 refine holds_law hd2.said fun said=>holds_open (r:=hd2.r3) (q:=hd2.view2) (loose:=[]) (Xt:=fun s=>xlAt hd2.view2 [] s && recOk (RowW.records hd2.r3.toRowW) s) (XP:=XL hd2.view2 []) (Yf:=Hook.obs hd2.H3) (Ya:=Hook.val hd2.H3) (YP:=Hook.says hd2.H3) (N:=2064)
  hd2.left (Hook.of hd2.H3) (Hook.keeps hd2.H3) (fun s e=>xl_of s (Bool.and_eq_true_iff.mp e).1) XL.keeps (by rfl) (by rfl) (by rfl) (fun s e=>recFacts_of (Bool.and_eq_true_iff.mp e).2) rfl said (by decide +kernel) ⟨rfl,rfl,rfl,rfl,rfl,by decide +kernel⟩ hd2.prom ?_
 ·k_fill
  intro w s₀ s₁ mg mb G Y fa o pm cd doc dV kV ho hd hcd hD hmg hg args vals as hpre hlay hrd hwl hlo
  have KX:=km_in_of Y
  km_tabs Y
  have X:=(Ground.X G).1
  refine (let fG:Prop:=_; (?_:fG)); have V:=(Ground.X G).2
  refine Ground.open G ?_
  intro T B D TE TW
  try (refine guard_noD D (by decide +kernel) ?_; clear D)
  km_lay T hmg ho hd cd
  clear hmg
  wrow_args hpre hlay hrd hwl hlo
  first | refine callC_kw (enter_call ?_) | refine enter_call ?_
  w_top on
  refine D0j hT9 (fun _ _=>rfl) (PySem.W.postW_of rfl rfl (by kernel_rfl)) ?_
  w_call any ho hd hcd hD T F
  clear hd
  kn_ghosts F T
  k_drop
  rename_i hLx ra w1 r0 hI hr hc1 hc2 h₁ tk₁ X0 X' T' K' F' cH0 cH1 N' l0
  refine' wpAny_mono (C7g D3u ⟨_,_,_,_,T'⟩ X' cH0 cH1 codeHd F' N' l0.2.2 ?hm lifted (by assumption) (by omega) (by assumption) ⟨_,right⟩ ⟨_,left⟩ ?hA ?h1 ?h2 ?ef ?el ?ek ?en ?eg ?eb ?ec) (fun fl s' h=>?_) Mine.B6o
  case hm=>rfl
  case hA=>exact rfl
  case h1=>decide
  case h2=>decide
  case ef=>exact rfl
  case el=>exact rfl
  case ek=>exact rfl
  case en=>exact rfl
  case eg=>exact rfl
  case eb=>exact rfl
  case ec =>
   intro j x h
   match j,h with
   | 0,h=>cases h; rfl
   | 1,h=>cases h; rfl
   | j + 2,h=>cases h
  obtain ⟨rfl,h2,h3,h4,h5⟩:=h
  exact ⟨rfl,h2,h3,h4,h5⟩
end Ab
end
end Internal
end
set_option maxRecDepth 100000 in
set_option maxHeartbeats 8000000 in
theorem PySem.Challenge.cw_wf0058_02_holds : PySem.Challenge.rw_wf0058_02.Holds := by
  exact Internal.Ab.law2_holds
