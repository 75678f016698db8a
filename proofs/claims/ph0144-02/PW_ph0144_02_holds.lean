import PyProof.Rows.All
import Wide.All
import OpenK.AllK
import Wide.FinOn
import PyProof.EqAt
import PyProof.NeKinds
import PySem.Challenge.RW_ph0144_02
set_option Elab.async false

section
namespace Mine
theorem ol0 {a' b' c' : Nat} (h0' : ((a' + (b' + (1 : Nat))) ≤ c')) : (a' < c') := by lia
theorem ol1 {a' b' c' : Nat} (h0' : ((a' + (b' + (1 : Nat))) ≤ c')) : (((a' + (1 : Nat)) + b') ≤ c') := by lia
theorem ol2 {a' b' : Nat} : ((a' + (b' + (1 : Nat))) = ((a' + (1 : Nat)) + b')) := by lia
theorem ol3 {a' : Nat} : (((0 : Nat) + a') ≤ a') := by lia
theorem ol4 {a' : Nat} (h0' : ((0 : Nat) < a')) : ((-((a' : Nat) : Int)) ≤ (-(1 : Int))) := by lia
theorem ol5 {a' : Nat} (h0' : ((0 : Nat) < a')) : ((Int.toNat ((-(1 : Int)) + ((a' : Nat) : Int))) = (a' - (1 : Nat))) := by lia
theorem ol6 {a' b' : Nat} (h0' : (a' < b')) : ((b' - (a' + (1 : Nat))) < (b' - a')) := by omega
theorem ol7 {a' : Nat} (h0' : (a' < (2 : Nat))) : (((a' : Nat) : Int) < (((2 : Nat) : Nat) : Int)) := by lia
theorem ol8 {a' b' c' d' e' f' g' : Nat} (h0' : (((a' + b') + c') ≤ d')) (h1' : (((e' + f') + g') ≤ (((a' + b') + c') + (1 : Nat)))) : (((e' + f') + g') ≤ (d' + (1 : Nat))) := by lia
theorem ol9 {a' b' c' d' e' f' : Nat} (h0' : (a' ≤ (900 : Nat))) (h1' : (b' = a')) (h2' : (c' < b')) (h3' : (((d' + e') + f') ≤ c')) : ((f' + (1 : Nat)) ≤ (1000 : Nat)) := by lia
theorem ol10 {a' b' c' d' e' f' : Nat} (h0' : (a' ≤ (900 : Nat))) (h1' : (b' = a')) (h2' : (c' < b')) (h3' : (((d' + e') + f') ≤ c')) : ((e' + (1 : Nat)) ≤ (1000 : Nat)) := by lia
theorem ol11 {a' b' c' d' e' f' : Nat} (h0' : (a' ≤ (900 : Nat))) (h1' : (b' = a')) (h2' : (c' < b')) (h3' : (((d' + e') + f') ≤ c')) : ((d' + (1 : Nat)) ≤ (100000 : Nat)) := by lia
theorem ol12 {a' b' c' : Nat} (h0' : ((1 : Nat) ≤ a')) : ((b' + (1 : Nat)) ≤ ((b' + c') + a')) := by lia
theorem ol13 {a' b' c' : Nat} (h0' : (a' ≤ (100000 : Nat))) (h1' : (b' ≤ c')) (h2' : (c' < a')) : (b' ≤ (100000 : Nat)) := by lia
theorem ol14 {a' b' : Nat} (h0' : (a' < b')) : (((b' + (1 : Nat)) - (a' + (1 : Nat))) < ((b' + (1 : Nat)) - a')) := by lia
theorem ol15 {a' : Nat} : ((Int.toNat (((a' : Nat) : Int) + (1 : Int))) = (a' + (1 : Nat))) := by lia
theorem ol16 {a' b' : Nat} (h0' : (a' < b')) : (((b' : Nat) : Int) > ((a' : Nat) : Int)) := by lia
theorem ol17 {a' b' : Nat} (h0' : (¬(a' < b'))) : (¬(((b' : Nat) : Int) > ((a' : Nat) : Int))) := by lia
theorem ol18 {a' b' : Nat} (h0' : (a' ≤ b')) : (((a' : Nat) : Int) ≤ ((b' : Nat) : Int)) := by lia
theorem ol19 {a' b' : Nat} (h0' : (a' ≤ b')) : ((Int.toNat (((b' : Nat) : Int) - ((a' : Nat) : Int))) = (b' - a')) := by lia
theorem ol20 {a' b' : Nat} (h0' : (a' ≤ b')) : ((((b' : Nat) : Int) - ((a' : Nat) : Int)) = (((b' - a') : Nat) : Int)) := by lia
theorem ol21 {a' b' : Nat} (h0' : (a' ≤ (1 : Nat))) : ((b' + a') < (b' + (2 : Nat))) := by lia
theorem ol22 {a' b' c' : Nat} (h0' : (a' ≤ (900 : Nat))) (h1' : (b' = a')) (h2' : (c' ≤ (1 : Nat))) : ((b' + c') ≤ (901 : Nat)) := by lia
theorem ol23 {a' b' : Nat} (h0' : (a' ≤ (500 : Nat))) (h1' : (b' ≤ a')) : ((a' - b') ≤ (500 : Nat)) := by lia
theorem ol24 {a' b' c' : Nat} (h0' : (a' ≤ (900 : Nat))) (h1' : (b' = a')) (h2' : (c' ≤ (1 : Nat))) : ((a' + c') ≤ (902 : Nat)) := by lia
theorem ol25 {a' b' c' d' : Nat} (h0' : (a' = (max b' (c' + d')))) (h1' : ((((c' : Nat) : Int) + ((d' : Nat) : Int)) > ((b' : Nat) : Int))) : ((((c' : Nat) : Int) + ((d' : Nat) : Int)) = ((a' : Nat) : Int)) := by lia
theorem ol26 {a' b' c' d' : Nat} (h0' : (a' = (max b' (c' + d')))) (h1' : (¬((((c' : Nat) : Int) + ((d' : Nat) : Int)) > ((b' : Nat) : Int)))) : (b' = a') := by lia
theorem ol28 {a' b' c' d' e' f' : Nat} (h0' : (a' = b')) (h1' : (c' = (max d' (e' + f')))) (h2' : (b' ≤ c')) : (((c' : Nat) : Int) ≥ ((b' : Nat) : Int)) := by lia
theorem ol29 {a' b' c' : Nat} (h0' : ((a' + b') ≤ (901 : Nat))) (h1' : (c' = a')) : (c' ≤ (1000 : Nat)) := by lia
theorem ol30 {a' b' c' d' e' f' : Nat} (h0' : (a' = ((b' - c') + d'))) (h1' : ((e' + a') ≤ (902 : Nat))) (h2' : (f' = e')) : (f' ≤ (999 : Nat)) := by lia
theorem ol31 {a' b' c' d' e' : Nat} (h0' : (a' = ((b' - c') + d'))) (h1' : (a' < e')) : (e' = ((e' - (1 : Nat)) + (1 : Nat))) := by lia
theorem ol32 {a' b' c' d' e' f' : Nat} (h0' : (a' = b')) (h1' : (c' = (max d' (e' + f')))) (h2' : (¬(b' ≤ c'))) : (¬(((c' : Nat) : Int) ≥ ((b' : Nat) : Int))) := by lia
theorem ol33 {a' b' c' : Nat} (h0' : ((a' + b') ≤ (901 : Nat))) (h1' : (c' = a')) : (a' ≤ (1000 : Nat)) := by lia
theorem ol34 {a' : Nat} : ((((a' : Nat) : Int) + (1 : Int)) = (((a' + (1 : Nat)) : Nat) : Int)) := by lia
theorem ol35 {a' b' c' d' e' f' g' : Nat} (h0' : ((a' + b') ≤ (901 : Nat))) (h1' : (c' = a')) (h2' : (d' = (max e' (f' + g')))) (h3' : (¬(a' ≤ d'))) : ((d' + (1 : Nat)) ≤ (2000 : Nat)) := by lia
theorem ol36 {a' : Nat} (h0' : ((0 : Nat) < a')) : ((0 : Int) < ((a' : Nat) : Int)) := by lia
theorem ol37 {a' b' c' d' : Nat} (h0' : (a' = (max b' (c' + d')))) : ((Int.toNat (((a' : Nat) : Int) + (1 : Int))) = (a' + (1 : Nat))) := by lia
theorem ol38 {a' : Nat} (h0' : (¬((0 : Nat) < a'))) : (¬((0 : Int) < ((a' : Nat) : Int))) := by lia
theorem ol39 {a' b' c' d' : Nat} (h0' : (a' = (max b' (c' + d')))) : (b' ≤ a') := by lia
theorem ol40 {a' b' c' d' e' f' g' : Nat} (h0' : (a' = b')) (h1' : (c' = (max d' (e' + f')))) (h2' : ((max (c' + (1 : Nat)) (1 : Nat)) ≤ g')) (h3' : (g' < ((max (c' + (1 : Nat)) (1 : Nat)) + (b' - (max (c' + (1 : Nat)) (1 : Nat)))))) (h4' : (((1 : Nat) ≤ g') ∧ (g' < b'))) : ((c' < g') ∧ (g' ≤ b')) := by lia
theorem ol41 {a' b' c' d' e' f' g' h' i' j' : Nat} (h0' : (a' = ((b' - c') + d'))) (h1' : (c' ≤ b')) (h2' : (e' = b')) (h3' : (f' = (max c' (g' + h')))) (h4' : (¬(b' ≤ f'))) (h5' : (c' ≤ f')) (h6' : (i' = j')) (h7' : ((f' < i') ∧ (i' ≤ b'))) : (((b' - i') + d') < a') := by lia
theorem ol42 {a' b' c' d' e' f' g' h' i' j' k' : Nat} (h0' : (a' = ((b' - c') + d'))) (h1' : (c' ≤ b')) (h2' : (e' = b')) (h3' : (f' = (max c' (g' + h')))) (h4' : (¬(b' ≤ f'))) (h5' : (a' < (i' + (1 : Nat)))) (h6' : (c' ≤ f')) (h7' : (j' = k')) (h8' : ((f' < j') ∧ (j' ≤ b'))) : (((b' - j') + d') < i') := by lia
theorem ol43 {a' b' c' d' e' f' g' h' i' j' k' l' : Nat} (h0' : (a' = ((b' - c') + d'))) (h1' : (c' ≤ b')) (h2' : ((e' + a') ≤ (902 : Nat))) (h3' : (f' = b')) (h4' : (g' = e')) (h5' : (h' = (max c' (i' + j')))) (h6' : (¬(b' ≤ h'))) (h7' : (c' ≤ h')) (h8' : (k' = l')) (h9' : ((h' < k') ∧ (k' ≤ b'))) : ((e' + ((b' - k') + d')) ≤ (902 : Nat)) := by lia
theorem ol44 {a' b' c' d' e' f' : Nat} (h0' : (a' = b')) (h1' : (c' = (max d' (e' + f')))) (h2' : (¬(b' ≤ c'))) : ((0 : Nat) < b') := by lia
theorem ol45 {a' b' c' d' e' f' : Nat} (h0' : (a' = ((b' - c') + d'))) (h1' : ((e' + a') ≤ (902 : Nat))) (h2' : (f' = e')) : (f' ≤ (100000 : Nat)) := by lia
theorem ol46 {a' b' c' d' e' f' g' : Nat} (h0' : (a' = ((b' - c') + d'))) (h1' : (a' < (e' + (1 : Nat)))) (h2' : ((f' - g') < a')) : ((f' - g') < e') := by lia
theorem ol47 {a' b' c' d' e' f' g' h' : Nat} (h0' : (a' = ((b' - c') + d'))) (h1' : ((e' + a') ≤ (902 : Nat))) (h2' : (f' = e')) (h3' : ((g' - h') < a')) : (((e' + (1 : Nat)) + (g' - h')) ≤ (902 : Nat)) := by lia
theorem ol50 {a' b' c' d' e' f' g' h' i' j' : Nat} (h0' : (a' = ((b' - c') + d'))) (h1' : (c' ≤ b')) (h2' : (e' = b')) (h3' : (f' = (max c' (g' + h')))) (h4' : (¬(b' ≤ f'))) (h5' : (c' ≤ f')) (h6' : (i' = j')) (h7' : ((f' < i') ∧ (i' ≤ b'))) : ((b' - i') < a') := by lia
theorem ol51 {a' b' c' : Nat} (h0' : ((a' + b') ≤ (901 : Nat))) (h1' : (c' = a')) : (a' ≤ (901 : Nat)) := by lia
theorem ol52 {a' b' c' : Nat} (h0' : (a' = b')) (h1' : (c' < b')) : (c' ≤ (b' + (1 : Nat))) := by lia
theorem ol53 {a' b' c' d' e' : Nat} (h0' : (a' = b')) (h1' : (c' = d')) (h2' : ((e' < c') ∧ (c' ≤ b'))) : (c' ≤ (b' + (1 : Nat))) := by lia
theorem ol54 {a' b' c' d' e' f' g' h' i' j' : Nat} (h0' : (a' = ((b' - c') + d'))) (h1' : (c' ≤ b')) (h2' : (e' = b')) (h3' : (f' = (max c' (g' + h')))) (h4' : (¬(b' ≤ f'))) (h5' : (c' ≤ f')) (h6' : (i' = j')) (h7' : ((f' < i') ∧ (i' ≤ b'))) (h8' : (d' = (1 : Nat))) : (((b' + (1 : Nat)) - i') < a') := by lia
theorem ol55 {a' b' c' : Nat} (h0' : ((a' + b') ≤ (901 : Nat))) (h1' : (c' = a')) (h2' : (b' = (1 : Nat))) : (a' ≤ (900 : Nat)) := by lia
theorem ol56 {a' b' c' d' : Nat} (h0' : ((a' + b') ≤ (901 : Nat))) (h1' : (c' = a')) (h2' : ((1000000 : Nat) ≤ d')) : (((1 : Nat) + a') ≤ d') := by lia
theorem ol57 {a' b' c' d' : Nat} (h0' : (a' ≤ ((3 : Nat) * b'))) (h1' : (c' ≤ (3 : Nat))) (h2' : (d' = c')) : ((d' + a') ≤ ((3 : Nat) * (b' + (1 : Nat)))) := by lia
theorem ol58 {a' b' : Nat} (h0' : (a' ≤ (18 : Nat))) (h1' : (b' ≤ ((3 : Nat) * a'))) : ((b' + (a' * (0 : Nat))) ≤ (1000 : Nat)) := by lia
theorem ol59 {a' : Int} (h0' : ((0 : Int) ≤ a')) (h1' : (a' < (6 : Int))) : ((a' = (0 : Int)) ∨ ((a' = (1 : Int)) ∨ ((a' = (2 : Int)) ∨ ((a' = (3 : Int)) ∨ ((a' = (4 : Int)) ∨ (a' = (5 : Int))))))) := by lia
theorem ol61 {a' : Int} (h0' : ((0 : Int) ≤ a')) (h1' : (a' < (6 : Int))) : (((3 : Int) + a') = (((Int.toNat ((3 : Int) + a')) : Nat) : Int)) := by lia
theorem ol62 {a' : Int} (h0' : ((0 : Int) ≤ a')) (h1' : (a' < (6 : Int))) : ((3 : Nat) ≤ (Int.toNat ((3 : Int) + a'))) := by lia
theorem ol63 {a' : Int} (h0' : ((0 : Int) ≤ a')) (h1' : (a' < (6 : Int))) : ((Int.toNat ((3 : Int) + a')) ≤ (8 : Nat)) := by lia
theorem ol64 {a' : Nat} (h0' : (a' ≤ (4 : Nat))) : (a' ≤ (1000 : Nat)) := by exact Nat.le_trans (by assumption) (by decide)
theorem ol65 {a' : Nat} (h0' : (a' ≤ (55 : Nat))) : (a' ≤ (900 : Nat)) := by exact Nat.le_trans (by assumption) (by decide)
theorem ol68 {a' b' c' d' e' f' g' h' i' j' k' l' : Nat} (h0' : (a' ≤ (55 : Nat))) (h1' : (b' ≤ a')) (h2' : (c' = b')) (h3' : (d' < b')) (h4' : ((e' + f') ≤ (((g' + h') + i') + j'))) (h5' : (a' = (i' + (k' + l')))) (h6' : (j' ≤ d')) (h7' : ((g' + h') = (0 : Nat))) : ((((f' + (k' + (0 : Nat))) : Nat) : Int) ≤ (100000 : Int)) := by lia
theorem ol69 {a' b' c' d' e' f' g' h' i' : Nat} (h0' : (a' ≤ (55 : Nat))) (h1' : (b' ≤ a')) (h2' : (c' = b')) (h3' : (d' < b')) (h4' : (e' ≤ ((0 : Nat) + f'))) (h5' : (a' = (g' + (h' + i')))) (h6' : (f' ≤ d')) : (e' ≤ (900 : Nat)) := by lia
theorem ol70 {a' : Int} (h0' : ((0 : Int) ≤ a')) (h1' : (a' ≤ (3 : Int))) : (a' ≤ (1000 : Int)) := by lia
theorem ol71 {a' : Int} (h0' : (a' ≤ (1000 : Int))) : (a' ≤ (100000 : Int)) := by lia
theorem ol72 {a' : Nat} (h0' : (a' ≤ (100 : Nat))) : (a' ≤ (1000 : Nat)) := by exact Nat.le_trans (by assumption) (by decide)
theorem ol73 {a' : Nat} (h0' : ((3 : Nat) ≤ a')) (h1' : (a' ≤ (8 : Nat))) : (a' ≤ (500 : Nat)) := by exact Nat.le_trans (by assumption) (by decide)
theorem ol74 {a' b' : Nat} (h0' : ((3 : Nat) ≤ a')) (h1' : (a' ≤ (8 : Nat))) (h2' : (b' ≤ (3 : Nat))) : (b' ≤ a') := by lia
theorem ol75 {a' b' c' : Nat} (h0' : (a' ≤ ((3 : Nat) * b'))) (h1' : (c' ≤ (3 : Nat))) : ((c' + a') ≤ ((3 : Nat) * (b' + (1 : Nat)))) := by lia
theorem ol76 {a' : Nat} : (((min (5 : Nat) a') + ((((((((((((((0 : Nat) + (1 : Nat)) + (1 : Nat)) + (1 : Nat)) + (1 : Nat)) + (1 : Nat)) + (1 : Nat)) + (1 : Nat)) + (1 : Nat)) + (1 : Nat)) + (1 : Nat)) + (1 : Nat)) + (1 : Nat)) + (1 : Nat))) ≤ (18 : Nat)) := by lia
theorem ol77 {a' b' : Nat} (h0' : (a' ≤ ((3 : Nat) * b'))) (h1' : (b' ≤ (18 : Nat))) : ((a' + ((0 : Nat) + (1 : Nat))) ≤ (55 : Nat)) := by lia
theorem ol78 {a' b' c' : Nat} (h0' : (a' ≤ b')) (h1' : (c' ≤ (b' - a'))) : ((a' + c') ≤ b') := by lia
theorem ol79 {a' b' : Nat} (h0' : ((1 : Nat) ≤ a')) : ((1 : Nat) ≤ (b' + a')) := by lia
theorem ol80 {a' b' : Nat} (h0' : ((1 : Nat) ≤ a')) : (b' < (b' + a')) := by lia
theorem ol81 {a' b' c' : Nat} (h0' : ((1 : Nat) ≤ a')) (h1' : ((b' + a') < c')) : (a' < (c' - b')) := by lia
theorem ol82 {a' b' c' d' : Nat} (h0' : (a' ≤ b')) (h1' : ((1 : Nat) ≤ c')) (h2' : (d' ≤ b')) (h3' : ((a' + c') < d')) : ((d' - a') ≤ (b' - a')) := by omega
theorem ol83 {a' b' c' : Nat} (h0' : ((1 : Nat) ≤ a')) (h1' : ((b' + a') < c')) : ((1 : Nat) ≤ (c' - b')) := by lia
theorem ol84 {a' b' c' : Nat} (h0' : ((1 : Nat) ≤ a')) (h1' : ((b' + a') < c')) : ((b' + (c' - b')) = c') := by lia
theorem ol85 {a' b' : Nat} (h0' : (a' < b')) (h1' : (b' ≤ a')) : False := by lia
theorem ol86 {a' b' : Nat} (h0' : (a' < b')) : ((1 : Nat) ≤ (b' - a')) := by lia
theorem ol87 {a' b' c' : Nat} (h0' : (a' ≤ b')) (h1' : (c' ≤ b')) (h2' : (a' < c')) : ((c' - a') ≤ (b' - a')) := by omega
theorem ol88 {a' b' : Nat} (h0' : (a' < b')) : ((a' + (b' - a')) = b') := by lia
theorem ol89 {a' : Nat} (h0' : ((a' + (1 : Nat)) ≤ a')) : False := by lia
theorem ol90 {a' b' : Nat} (h0' : (¬(a' < (b' + (1 : Nat))))) : ((max (b' + (1 : Nat)) (1 : Nat)) ≤ a') := by lia
theorem ol91 {a' b' c' : Nat} (h0' : (((1 : Nat) ≤ a') ∧ (a' < b'))) : (a' < ((max (c' + (1 : Nat)) (1 : Nat)) + (b' - (max (c' + (1 : Nat)) (1 : Nat))))) := by omega
theorem ol92 {a' b' : Nat} (h0' : (a' < b')) (h1' : ((a' + (1 : Nat)) ≥ b')) : ((a' + (1 : Nat)) = b') := by lia
theorem ol93 {a' b' c' d' e' : Nat} (h0' : ((max (a' + (1 : Nat)) (1 : Nat)) ≤ b')) (h1' : (b' < ((max (a' + (1 : Nat)) (1 : Nat)) + (c' - (max (a' + (1 : Nat)) (1 : Nat)))))) (h2' : (b' < (a' + (1 : Nat)))) : (d' < e') := by lia
theorem ol94 {a' b' c' : Nat} (h0' : (a' < b')) (h1' : (c' < b')) (h2' : ((a' + (1 : Nat)) < c')) : ((a' + (1 : Nat)) < b') := by lia
theorem ol95 {a' b' c' d' : Nat} (h0' : ((max (a' + (1 : Nat)) (1 : Nat)) ≤ b')) (h1' : (b' < ((max (a' + (1 : Nat)) (1 : Nat)) + (c' - (max (a' + (1 : Nat)) (1 : Nat)))))) (h2' : (¬(d' < (a' + (1 : Nat))))) : ((max (a' + (1 : Nat)) (1 : Nat)) ≤ d') := by lia
theorem ol96 {a' b' c' : Nat} (h0' : ((1 : Nat) ≤ a')) (h1' : (a' ≤ (0 : Nat))) : ((b' + (1 : Nat)) ≤ c') := by lia
theorem ol97 {a' b' : Nat} (h0' : (a' > (0 : Nat))) (h1' : (a' < b')) : ((1 : Nat) ≤ b') := by lia
theorem ol98 {a' b' c' d' : Nat} (h0' : (a' < b')) (h1' : (b' ≤ a')) : ((c' + (1 : Nat)) ≤ d') := by lia
theorem ol99 {a' b' c' d' e' : Nat} (h0' : (a' < b')) (h1' : (c' < (a' + (1 : Nat)))) (h2' : (b' ≤ c')) : (d' ≤ e') := by lia
theorem ol100 {a' b' c' : Nat} (h0' : (a' ≤ b')) (h1' : (c' ≤ a')) : (c' < (b' + (1 : Nat))) := by lia
theorem ol101 {a' b' : Nat} (h0' : (a' ≤ b')) : (b' = (a' + (b' - a'))) := by lia
theorem ol102 {a' b' : Nat} : (((a' + b') - a') = b') := by lia
theorem ol103 {a' b' c' : Nat} (h0' : ((a' + b') ≤ c')) : ((((a' : Nat) : Int) + ((b' : Nat) : Int)) ≤ ((c' : Nat) : Int)) := by lia
theorem ol104 {a' b' c' : Nat} (h0' : (¬((a' + b') ≤ c'))) : (¬((((a' : Nat) : Int) + ((b' : Nat) : Int)) ≤ ((c' : Nat) : Int))) := by lia
theorem ol105 {a' b' : Nat} (h0' : (¬(a' ≤ b'))) : (¬(((0 : Int) + ((a' : Nat) : Int)) ≤ ((b' : Nat) : Int))) := by lia
theorem ol106 {a' b' : Nat} : ((a' + (b' + (1 : Nat))) = ((a' + b') + (1 : Nat))) := by lia
theorem ol107 {a' b' c' d' e' f' : Nat} (h0' : (a' < b')) (h1' : (c' = (d' + e'))) (h2' : (f' = (d' + b'))) : ((d' + a') < f') := by lia
theorem ol108 {a' b' : Nat} (h0' : (a' ≤ b')) : (((0 : Nat) + a') ≤ b') := by lia
theorem ol109 {a' b' : Nat} : (a' ≤ (a' + b')) := by lia
theorem ol110 {a' b' c' d' e' f' : Nat} (h0' : (a' ≤ b')) (h1' : (c' = (d' + e'))) (h2' : (f' = (d' + a'))) (h3' : (e' ≤ a')) : ((max f' (d' + b')) = (max c' (d' + b'))) := by lia
theorem ol111 {a' b' : Nat} (h0' : (a' < b')) : (b' = ((b' - (1 : Nat)) + (1 : Nat))) := by lia
theorem ol112 {a' b' : Nat} (h0' : (¬(a' ≤ b'))) : (¬(((0 : Nat) + a') ≤ b')) := by lia
theorem ol113 {a' b' c' d' : Nat} (h0' : (a' ≤ (b' - (1 : Nat)))) (h1' : (b' = (c' + (1 : Nat)))) : ((d' + (min a' b')) = (d' + a')) := by lia
theorem ol114 {a' b' c' d' e' f' : Nat} (h0' : (a' ≤ (b' - (1 : Nat)))) (h1' : (b' = (c' + (1 : Nat)))) (h2' : (d' = (e' + a'))) : (a' < (c' + (f' + (1 : Nat)))) := by lia
theorem ol115 {a' b' c' : Nat} (h0' : ((1 : Nat) ≤ a')) (h1' : (b' = (c' + a'))) : ((1 : Nat) ≤ (c' + a')) := by lia
theorem ol116 {a' b' c' d' e' : Nat} (h0' : (a' ≤ (b' - (1 : Nat)))) (h1' : (b' = (c' + (1 : Nat)))) (h2' : (d' = (e' + a'))) : (a' ≤ b') := by lia
theorem ol117 {a' b' c' : Nat} (h0' : ((a' + (1 : Nat)) = b')) (h1' : (c' ≤ a')) : ((max a' ((0 : Nat) + c')) = a') := by lia
theorem ol118 {a' b' c' d' : Nat} (h0' : ((a' + (1 : Nat)) = b')) (h1' : ((max a' ((0 : Nat) + c')) = a')) (h2' : (b' ≤ d')) : (¬(d' ≤ a')) := by lia
theorem ol119 {a' b' : Nat} (h0' : ((a' + (1 : Nat)) < b')) : (b' = ((b' - (1 : Nat)) + (1 : Nat))) := by lia
theorem ol120 {a' b' c' : Nat} (h0' : (a' ≤ b')) (h1' : ((a' + c') ≤ b')) : (c' ≤ (b' - a')) := by lia
theorem ol121 {a' b' c' d' : Nat} (h0' : (a' ≤ b')) (h1' : (c' ≤ (b' - a'))) (h2' : ((a' + d') ≤ b')) : ((max d' ((0 : Nat) + (b' - a'))) = (max c' ((0 : Nat) + (b' - a')))) := by lia
theorem ol122 {a' b' c' : Nat} (h0' : (a' ≤ b')) (h1' : (¬((a' + c') ≤ b'))) : ((b' - a') < c') := by lia
theorem ol123 {a' b' c' : Nat} (h0' : (a' ≤ (b' - (1 : Nat)))) (h1' : (b' = (c' + (1 : Nat)))) : ((min a' b') = a') := by lia
theorem ol124 {a' b' c' d' e' : Nat} (h0' : (a' ≤ (b' - (1 : Nat)))) (h1' : (b' = (c' + (1 : Nat)))) (h2' : (d' = a')) : (a' < (c' + (e' + (1 : Nat)))) := by lia
theorem ol125 {a' b' : Nat} (h0' : ((a' + (2 : Nat)) < (b' + (1 : Nat)))) : (a' < b') := by lia
theorem ol126 {a' b' c' d' : Nat} (h0' : (a' ≤ (b' - (1 : Nat)))) (h1' : (b' = (c' + (1 : Nat)))) (h2' : (d' = a')) : (a' ≤ b') := by lia
theorem ol127 {a' b' c' d' : Nat} (h0' : (a' = (b' + (1 : Nat)))) (h1' : (c' = a')) (h2' : (b' < d')) : ((max b' ((0 : Nat) + d')) = (max a' ((0 : Nat) + d'))) := by lia
theorem ol128 {a' b' : Nat} (h0' : ((a' + (1 : Nat)) < (b' + (1 : Nat)))) : (b' = ((b' - (1 : Nat)) + (1 : Nat))) := by lia
theorem ol129 {a' b' : Nat} (h0' : ((a' + (2 : Nat)) < ((b' + (1 : Nat)) + (1 : Nat)))) : (a' < b') := by lia
theorem ol132 {a' : Nat} {b' c' : Int} (h0' : ((1 : Nat) ≤ a')) (h1' : (b' = ((a' : Nat) : Int))) (h2' : (((0 : Int) ≤ c') ∧ (c' ≤ (3 : Int)))) : ((0 : Int) < (c' + b')) := by lia
theorem ol133 {a' b' c' : Nat} (h0' : (a' ≤ (55 : Nat))) (h1' : (b' ≤ ((0 : Nat) + c'))) (h2' : (c' ≤ a')) : (b' ≤ (100 : Nat)) := by lia
theorem ol134 {a' b' c' d' e' f' : Nat} {g' : Int} (h0' : (a' ≤ (55 : Nat))) (h1' : ((b' + c') ≤ (((d' + e') + a') + f'))) (h2' : (f' ≤ a')) (h3' : ((d' + e') = (0 : Nat))) (h4' : (g' = ((c' : Nat) : Int))) : (g' ≤ (1000 : Int)) := by lia
theorem ol135 {a' b' : Nat} (h0' : (a' ≤ b')) : (a' < (b' + (2 : Nat))) := by lia
theorem ol136 {a' b' : Nat} (h0' : (((3 : Nat) ≤ a') ∧ (a' ≤ (8 : Nat)))) (h1' : (b' ≤ (3 : Nat))) (h2' : (b' > (0 : Nat))) : (b' ≤ a') := by lia
theorem ol137 {a' b' : Nat} (h0' : (a' ≤ b')) : ((a' + (1 : Nat)) < (b' + (2 : Nat))) := by lia
theorem ol138 {a' b' c' d' e' f' g' : Nat} {h' : Int} (h0' : (a' ≤ (55 : Nat))) (h1' : ((b' + c') ≤ (((d' + e') + a') + f'))) (h2' : (g' ≤ ((0 : Nat) + f'))) (h3' : (f' ≤ a')) (h4' : ((d' + e') = (0 : Nat))) (h5' : (h' = ((c' : Nat) : Int))) : (((b' + c') + ((g' + ((0 : Nat) + (1 : Nat))) * (1 : Nat))) ≤ (1000 : Nat)) := by lia
end Mine
end

section
open PySem PySem.W PySem.W.X PySem.W.ZRun PyProof.Rows
set_option maxRecDepth 100000
set_option maxHeartbeats 8000000
noncomputable def hdz.view_461 : Program :=
  let p := (OpenRow.toRowW (OpenLaw.row Challenge.rw_ph0144_02)).1
  { p with main := { p.main with body := [0, 2, 3, 4, 5, 7, 9, 10, 11, 12, 13].filterMap (p.main.body[·]?) } }
namespace Mine
noncomputable def hFdOf : Option Stmt → FuncData
  | some (.FunctionDef n a b _ _ _ s _ _ _) => { name := n, qualname := n, params := a, body := .stmts b, scope := s, globals := 0, closure := [], defaults := .none, kwdefaults := .none }
  | _ => { name := Str.empty, qualname := Str.empty, params := default, body := .stmts [], scope := default, globals := 0, closure := [], defaults := .none, kwdefaults := .none }
noncomputable def hClass : Option Stmt → List Stmt
  | some (.ClassDef _ _ _ b _ _ _ _ _ _ _) => b
  | _ => []
noncomputable def hFd (i : Nat) : FuncData := hFdOf (Challenge.pw_ph0144_02.main.body[i]?)
noncomputable def hFm (i j : Nat) : FuncData := hFdOf ((hClass (Challenge.pw_ph0144_02.main.body[i]?))[j]?)
noncomputable def hZe (P : Params) (s : Str) (n : Nat) (v : Value) : DictEntry := { hash := PyData.keyHash P s, key := .str s n, val := v }
end Mine
noncomputable def Mine.hz0 : Str := ⟨⟨[95,95,110,97,109,101,95,95]⟩⟩
noncomputable def Mine.hz1 : Str := ⟨⟨[98,117,105,108,116,105,110,115]⟩⟩
noncomputable def Mine.hz2 : Str := ⟨⟨[95,95,100,111,99,95,95]⟩⟩
noncomputable def Mine.hz3 : Str := ⟨⟨[95,95,112,97,99,107,97,103,101,95,95]⟩⟩
noncomputable def Mine.hz4 : Str := ⟨⟨[95,95,108,111,97,100,101,114,95,95]⟩⟩
noncomputable def Mine.hz5 : Str := ⟨⟨[95,95,115,112,101,99,95,95]⟩⟩
noncomputable def Mine.hz6 : Str := ⟨⟨[95,95,98,117,105,108,100,95,99,108,97,115,115,95,95]⟩⟩
noncomputable def Mine.hz7 : Str := ⟨⟨[95,95,105,109,112,111,114,116,95,95]⟩⟩
noncomputable def Mine.hz8 : Str := ⟨⟨[97,98,115]⟩⟩
noncomputable def Mine.hz9 : Str := ⟨⟨[97,108,108]⟩⟩
noncomputable def Mine.hz10 : Str := ⟨⟨[97,110,121]⟩⟩
noncomputable def Mine.hz11 : Str := ⟨⟨[97,115,99,105,105]⟩⟩
noncomputable def Mine.hz12 : Str := ⟨⟨[98,105,110]⟩⟩
noncomputable def Mine.hz13 : Str := ⟨⟨[98,114,101,97,107,112,111,105,110,116]⟩⟩
noncomputable def Mine.hz14 : Str := ⟨⟨[99,97,108,108,97,98,108,101]⟩⟩
noncomputable def Mine.hz15 : Str := ⟨⟨[99,104,114]⟩⟩
noncomputable def Mine.hz16 : Str := ⟨⟨[99,111,109,112,105,108,101]⟩⟩
noncomputable def Mine.hz17 : Str := ⟨⟨[100,101,108,97,116,116,114]⟩⟩
noncomputable def Mine.hz18 : Str := ⟨⟨[100,105,114]⟩⟩
noncomputable def Mine.hz19 : Str := ⟨⟨[100,105,118,109,111,100]⟩⟩
noncomputable def Mine.hz20 : Str := ⟨⟨[101,118,97,108]⟩⟩
noncomputable def Mine.hz21 : Str := ⟨⟨[101,120,101,99]⟩⟩
noncomputable def Mine.hz22 : Str := ⟨⟨[102,111,114,109,97,116]⟩⟩
noncomputable def Mine.hz23 : Str := ⟨⟨[103,101,116,97,116,116,114]⟩⟩
noncomputable def Mine.hz24 : Str := ⟨⟨[103,108,111,98,97,108,115]⟩⟩
noncomputable def Mine.hz25 : Str := ⟨⟨[104,97,115,97,116,116,114]⟩⟩
noncomputable def Mine.hz26 : Str := ⟨⟨[104,97,115,104]⟩⟩
noncomputable def Mine.hz27 : Str := ⟨⟨[104,101,120]⟩⟩
noncomputable def Mine.hz28 : Str := ⟨⟨[105,110,112,117,116]⟩⟩
noncomputable def Mine.hz29 : Str := ⟨⟨[105,115,105,110,115,116,97,110,99,101]⟩⟩
noncomputable def Mine.hz30 : Str := ⟨⟨[105,115,115,117,98,99,108,97,115,115]⟩⟩
noncomputable def Mine.hz31 : Str := ⟨⟨[105,116,101,114]⟩⟩
noncomputable def Mine.hz32 : Str := ⟨⟨[97,105,116,101,114]⟩⟩
noncomputable def Mine.hz33 : Str := ⟨⟨[108,101,110]⟩⟩
noncomputable def Mine.hz34 : Str := ⟨⟨[108,111,99,97,108,115]⟩⟩
noncomputable def Mine.hz35 : Str := ⟨⟨[109,97,120]⟩⟩
noncomputable def Mine.hz36 : Str := ⟨⟨[109,105,110]⟩⟩
noncomputable def Mine.hz37 : Str := ⟨⟨[110,101,120,116]⟩⟩
noncomputable def Mine.hz38 : Str := ⟨⟨[97,110,101,120,116]⟩⟩
noncomputable def Mine.hz39 : Str := ⟨⟨[111,99,116]⟩⟩
noncomputable def Mine.hz40 : Str := ⟨⟨[111,114,100]⟩⟩
noncomputable def Mine.hz41 : Str := ⟨⟨[112,111,119]⟩⟩
noncomputable def Mine.hz42 : Str := ⟨⟨[112,114,105,110,116]⟩⟩
noncomputable def Mine.hz43 : Str := ⟨⟨[114,101,112,114]⟩⟩
noncomputable def Mine.hz44 : Str := ⟨⟨[114,111,117,110,100]⟩⟩
noncomputable def Mine.hz45 : Str := ⟨⟨[115,101,116,97,116,116,114]⟩⟩
noncomputable def Mine.hz46 : Str := ⟨⟨[115,111,114,116,101,100]⟩⟩
noncomputable def Mine.hz47 : Str := ⟨⟨[115,117,109]⟩⟩
noncomputable def Mine.hz48 : Str := ⟨⟨[118,97,114,115]⟩⟩
noncomputable def Mine.hz49 : Str := ⟨⟨[78,111,110,101]⟩⟩
noncomputable def Mine.hz50 : Str := ⟨⟨[69,108,108,105,112,115,105,115]⟩⟩
noncomputable def Mine.hz51 : Str := ⟨⟨[78,111,116,73,109,112,108,101,109,101,110,116,101,100]⟩⟩
noncomputable def Mine.hz52 : Str := ⟨⟨[70,97,108,115,101]⟩⟩
noncomputable def Mine.hz53 : Str := ⟨⟨[84,114,117,101]⟩⟩
noncomputable def Mine.hz54 : Str := ⟨⟨[98,111,111,108]⟩⟩
noncomputable def Mine.hz55 : Str := ⟨⟨[109,101,109,111,114,121,118,105,101,119]⟩⟩
noncomputable def Mine.hz56 : Str := ⟨⟨[98,121,116,101,97,114,114,97,121]⟩⟩
noncomputable def Mine.hz57 : Str := ⟨⟨[98,121,116,101,115]⟩⟩
noncomputable def Mine.hz58 : Str := ⟨⟨[99,108,97,115,115,109,101,116,104,111,100]⟩⟩
noncomputable def Mine.hz59 : Str := ⟨⟨[99,111,109,112,108,101,120]⟩⟩
noncomputable def Mine.hz60 : Str := ⟨⟨[100,105,99,116]⟩⟩
noncomputable def Mine.hz61 : Str := ⟨⟨[101,110,117,109,101,114,97,116,101]⟩⟩
noncomputable def Mine.hz62 : Str := ⟨⟨[102,105,108,116,101,114]⟩⟩
noncomputable def Mine.hz63 : Str := ⟨⟨[102,108,111,97,116]⟩⟩
noncomputable def Mine.hz64 : Str := ⟨⟨[102,114,111,122,101,110,115,101,116]⟩⟩
noncomputable def Mine.hz65 : Str := ⟨⟨[112,114,111,112,101,114,116,121]⟩⟩
noncomputable def Mine.hz66 : Str := ⟨⟨[105,110,116]⟩⟩
noncomputable def Mine.hz67 : Str := ⟨⟨[108,105,115,116]⟩⟩
noncomputable def Mine.hz68 : Str := ⟨⟨[109,97,112]⟩⟩
noncomputable def Mine.hz69 : Str := ⟨⟨[111,98,106,101,99,116]⟩⟩
noncomputable def Mine.hz70 : Str := ⟨⟨[114,97,110,103,101]⟩⟩
noncomputable def Mine.hz71 : Str := ⟨⟨[114,101,118,101,114,115,101,100]⟩⟩
noncomputable def Mine.hz72 : Str := ⟨⟨[115,101,116]⟩⟩
noncomputable def Mine.hz73 : Str := ⟨⟨[115,108,105,99,101]⟩⟩
noncomputable def Mine.hz74 : Str := ⟨⟨[115,116,97,116,105,99,109,101,116,104,111,100]⟩⟩
noncomputable def Mine.hz75 : Str := ⟨⟨[115,116,114]⟩⟩
noncomputable def Mine.hz76 : Str := ⟨⟨[115,117,112,101,114]⟩⟩
noncomputable def Mine.hz77 : Str := ⟨⟨[116,117,112,108,101]⟩⟩
noncomputable def Mine.hz78 : Str := ⟨⟨[116,121,112,101]⟩⟩
noncomputable def Mine.hz79 : Str := ⟨⟨[122,105,112]⟩⟩
noncomputable def Mine.hz80 : Str := ⟨⟨[95,95,100,101,98,117,103,95,95]⟩⟩
noncomputable def Mine.hz81 : Str := ⟨⟨[66,97,115,101,69,120,99,101,112,116,105,111,110]⟩⟩
noncomputable def Mine.hz82 : Str := ⟨⟨[66,97,115,101,69,120,99,101,112,116,105,111,110,71,114,111,117,112]⟩⟩
noncomputable def Mine.hz83 : Str := ⟨⟨[69,120,99,101,112,116,105,111,110]⟩⟩
noncomputable def Mine.hz84 : Str := ⟨⟨[71,101,110,101,114,97,116,111,114,69,120,105,116]⟩⟩
noncomputable def Mine.hz85 : Str := ⟨⟨[75,101,121,98,111,97,114,100,73,110,116,101,114,114,117,112,116]⟩⟩
noncomputable def Mine.hz86 : Str := ⟨⟨[83,121,115,116,101,109,69,120,105,116]⟩⟩
noncomputable def Mine.hz87 : Str := ⟨⟨[65,114,105,116,104,109,101,116,105,99,69,114,114,111,114]⟩⟩
noncomputable def Mine.hz88 : Str := ⟨⟨[65,115,115,101,114,116,105,111,110,69,114,114,111,114]⟩⟩
noncomputable def Mine.hz89 : Str := ⟨⟨[65,116,116,114,105,98,117,116,101,69,114,114,111,114]⟩⟩
noncomputable def Mine.hz90 : Str := ⟨⟨[66,117,102,102,101,114,69,114,114,111,114]⟩⟩
noncomputable def Mine.hz91 : Str := ⟨⟨[69,79,70,69,114,114,111,114]⟩⟩
noncomputable def Mine.hz92 : Str := ⟨⟨[73,109,112,111,114,116,69,114,114,111,114]⟩⟩
noncomputable def Mine.hz93 : Str := ⟨⟨[76,111,111,107,117,112,69,114,114,111,114]⟩⟩
noncomputable def Mine.hz94 : Str := ⟨⟨[77,101,109,111,114,121,69,114,114,111,114]⟩⟩
noncomputable def Mine.hz95 : Str := ⟨⟨[78,97,109,101,69,114,114,111,114]⟩⟩
noncomputable def Mine.hz96 : Str := ⟨⟨[79,83,69,114,114,111,114]⟩⟩
noncomputable def Mine.hz97 : Str := ⟨⟨[82,101,102,101,114,101,110,99,101,69,114,114,111,114]⟩⟩
noncomputable def Mine.hz98 : Str := ⟨⟨[82,117,110,116,105,109,101,69,114,114,111,114]⟩⟩
noncomputable def Mine.hz99 : Str := ⟨⟨[83,116,111,112,65,115,121,110,99,73,116,101,114,97,116,105,111,110]⟩⟩
noncomputable def Mine.hz100 : Str := ⟨⟨[83,116,111,112,73,116,101,114,97,116,105,111,110]⟩⟩
noncomputable def Mine.hz101 : Str := ⟨⟨[83,121,110,116,97,120,69,114,114,111,114]⟩⟩
noncomputable def Mine.hz102 : Str := ⟨⟨[83,121,115,116,101,109,69,114,114,111,114]⟩⟩
noncomputable def Mine.hz103 : Str := ⟨⟨[84,121,112,101,69,114,114,111,114]⟩⟩
noncomputable def Mine.hz104 : Str := ⟨⟨[86,97,108,117,101,69,114,114,111,114]⟩⟩
noncomputable def Mine.hz105 : Str := ⟨⟨[87,97,114,110,105,110,103]⟩⟩
noncomputable def Mine.hz106 : Str := ⟨⟨[70,108,111,97,116,105,110,103,80,111,105,110,116,69,114,114,111,114]⟩⟩
noncomputable def Mine.hz107 : Str := ⟨⟨[79,118,101,114,102,108,111,119,69,114,114,111,114]⟩⟩
noncomputable def Mine.hz108 : Str := ⟨⟨[90,101,114,111,68,105,118,105,115,105,111,110,69,114,114,111,114]⟩⟩
noncomputable def Mine.hz109 : Str := ⟨⟨[66,121,116,101,115,87,97,114,110,105,110,103]⟩⟩
noncomputable def Mine.hz110 : Str := ⟨⟨[68,101,112,114,101,99,97,116,105,111,110,87,97,114,110,105,110,103]⟩⟩
noncomputable def Mine.hz111 : Str := ⟨⟨[69,110,99,111,100,105,110,103,87,97,114,110,105,110,103]⟩⟩
noncomputable def Mine.hz112 : Str := ⟨⟨[70,117,116,117,114,101,87,97,114,110,105,110,103]⟩⟩
noncomputable def Mine.hz113 : Str := ⟨⟨[73,109,112,111,114,116,87,97,114,110,105,110,103]⟩⟩
noncomputable def Mine.hz114 : Str := ⟨⟨[80,101,110,100,105,110,103,68,101,112,114,101,99,97,116,105,111,110,87,97,114,110,105,110,103]⟩⟩
noncomputable def Mine.hz115 : Str := ⟨⟨[82,101,115,111,117,114,99,101,87,97,114,110,105,110,103]⟩⟩
noncomputable def Mine.hz116 : Str := ⟨⟨[82,117,110,116,105,109,101,87,97,114,110,105,110,103]⟩⟩
noncomputable def Mine.hz117 : Str := ⟨⟨[83,121,110,116,97,120,87,97,114,110,105,110,103]⟩⟩
noncomputable def Mine.hz118 : Str := ⟨⟨[85,110,105,99,111,100,101,87,97,114,110,105,110,103]⟩⟩
noncomputable def Mine.hz119 : Str := ⟨⟨[85,115,101,114,87,97,114,110,105,110,103]⟩⟩
noncomputable def Mine.hz120 : Str := ⟨⟨[66,108,111,99,107,105,110,103,73,79,69,114,114,111,114]⟩⟩
noncomputable def Mine.hz121 : Str := ⟨⟨[67,104,105,108,100,80,114,111,99,101,115,115,69,114,114,111,114]⟩⟩
noncomputable def Mine.hz122 : Str := ⟨⟨[67,111,110,110,101,99,116,105,111,110,69,114,114,111,114]⟩⟩
noncomputable def Mine.hz123 : Str := ⟨⟨[70,105,108,101,69,120,105,115,116,115,69,114,114,111,114]⟩⟩
noncomputable def Mine.hz124 : Str := ⟨⟨[70,105,108,101,78,111,116,70,111,117,110,100,69,114,114,111,114]⟩⟩
noncomputable def Mine.hz125 : Str := ⟨⟨[73,110,116,101,114,114,117,112,116,101,100,69,114,114,111,114]⟩⟩
noncomputable def Mine.hz126 : Str := ⟨⟨[73,115,65,68,105,114,101,99,116,111,114,121,69,114,114,111,114]⟩⟩
noncomputable def Mine.hz127 : Str := ⟨⟨[78,111,116,65,68,105,114,101,99,116,111,114,121,69,114,114,111,114]⟩⟩
noncomputable def Mine.hz128 : Str := ⟨⟨[80,101,114,109,105,115,115,105,111,110,69,114,114,111,114]⟩⟩
noncomputable def Mine.hz129 : Str := ⟨⟨[80,114,111,99,101,115,115,76,111,111,107,117,112,69,114,114,111,114]⟩⟩
noncomputable def Mine.hz130 : Str := ⟨⟨[84,105,109,101,111,117,116,69,114,114,111,114]⟩⟩
noncomputable def Mine.hz131 : Str := ⟨⟨[73,110,100,101,110,116,97,116,105,111,110,69,114,114,111,114]⟩⟩
noncomputable def Mine.hz132 : Str := ⟨⟨[95,73,110,99,111,109,112,108,101,116,101,73,110,112,117,116,69,114,114,111,114]⟩⟩
noncomputable def Mine.hz133 : Str := ⟨⟨[73,110,100,101,120,69,114,114,111,114]⟩⟩
noncomputable def Mine.hz134 : Str := ⟨⟨[75,101,121,69,114,114,111,114]⟩⟩
noncomputable def Mine.hz135 : Str := ⟨⟨[77,111,100,117,108,101,78,111,116,70,111,117,110,100,69,114,114,111,114]⟩⟩
noncomputable def Mine.hz136 : Str := ⟨⟨[78,111,116,73,109,112,108,101,109,101,110,116,101,100,69,114,114,111,114]⟩⟩
noncomputable def Mine.hz137 : Str := ⟨⟨[80,121,116,104,111,110,70,105,110,97,108,105,122,97,116,105,111,110,69,114,114,111,114]⟩⟩
noncomputable def Mine.hz138 : Str := ⟨⟨[82,101,99,117,114,115,105,111,110,69,114,114,111,114]⟩⟩
noncomputable def Mine.hz139 : Str := ⟨⟨[85,110,98,111,117,110,100,76,111,99,97,108,69,114,114,111,114]⟩⟩
noncomputable def Mine.hz140 : Str := ⟨⟨[85,110,105,99,111,100,101,69,114,114,111,114]⟩⟩
noncomputable def Mine.hz141 : Str := ⟨⟨[66,114,111,107,101,110,80,105,112,101,69,114,114,111,114]⟩⟩
noncomputable def Mine.hz142 : Str := ⟨⟨[67,111,110,110,101,99,116,105,111,110,65,98,111,114,116,101,100,69,114,114,111,114]⟩⟩
noncomputable def Mine.hz143 : Str := ⟨⟨[67,111,110,110,101,99,116,105,111,110,82,101,102,117,115,101,100,69,114,114,111,114]⟩⟩
noncomputable def Mine.hz144 : Str := ⟨⟨[67,111,110,110,101,99,116,105,111,110,82,101,115,101,116,69,114,114,111,114]⟩⟩
noncomputable def Mine.hz145 : Str := ⟨⟨[84,97,98,69,114,114,111,114]⟩⟩
noncomputable def Mine.hz146 : Str := ⟨⟨[85,110,105,99,111,100,101,68,101,99,111,100,101,69,114,114,111,114]⟩⟩
noncomputable def Mine.hz147 : Str := ⟨⟨[85,110,105,99,111,100,101,69,110,99,111,100,101,69,114,114,111,114]⟩⟩
noncomputable def Mine.hz148 : Str := ⟨⟨[85,110,105,99,111,100,101,84,114,97,110,115,108,97,116,101,69,114,114,111,114]⟩⟩
noncomputable def Mine.hz149 : Str := ⟨⟨[69,120,99,101,112,116,105,111,110,71,114,111,117,112]⟩⟩
noncomputable def Mine.hz150 : Str := ⟨⟨[69,110,118,105,114,111,110,109,101,110,116,69,114,114,111,114]⟩⟩
noncomputable def Mine.hz151 : Str := ⟨⟨[73,79,69,114,114,111,114]⟩⟩
noncomputable def Mine.hz152 : Str := ⟨⟨[111,112,101,110]⟩⟩
noncomputable def Mine.hz153 : Str := ⟨⟨[113,117,105,116]⟩⟩
noncomputable def Mine.hz154 : Str := ⟨⟨[101,120,105,116]⟩⟩
noncomputable def Mine.hz155 : Str := ⟨⟨[99,111,112,121,114,105,103,104,116]⟩⟩
noncomputable def Mine.hz156 : Str := ⟨⟨[99,114,101,100,105,116,115]⟩⟩
noncomputable def Mine.hz157 : Str := ⟨⟨[108,105,99,101,110,115,101]⟩⟩
noncomputable def Mine.hz158 : Str := ⟨⟨[104,101,108,112]⟩⟩
noncomputable def Mine.hz159 : Str := ⟨⟨[95,95,109,97,105,110,95,95]⟩⟩
noncomputable def Mine.hz160 : Str := ⟨⟨[108,97,119,95,112,104,48,49,52,52,95,48,50]⟩⟩
noncomputable def Mine.hz161 : Str := ⟨⟨[95,95,97,110,110,111,116,97,116,105,111,110,115,95,95]⟩⟩
noncomputable def Mine.hz162 : Str := ⟨⟨[95,95,98,117,105,108,116,105,110,115,95,95]⟩⟩
noncomputable def Mine.hz163 : Str := ⟨⟨[95,95,102,105,108,101,95,95]⟩⟩
noncomputable def Mine.hz164 : Str := ⟨⟨[47,99,108,97,105,109,47,99,117,116,46,112,121]⟩⟩
noncomputable def Mine.hz165 : Str := ⟨⟨[95,95,99,97,99,104,101,100,95,95]⟩⟩
noncomputable def Mine.hz166 : Str := ⟨⟨[95,119,97,108,108]⟩⟩
noncomputable def Mine.hz167 : Str := ⟨⟨[69,77,80,84,89,83,84,82,73,78,71]⟩⟩
noncomputable def Mine.hz168 : Str := ⟨⟨[95,86,97,108,117,101,70,111,114,109,97,116,116,101,114]⟩⟩
noncomputable def Mine.hz169 : Str := ⟨⟨[95,65,99,99,117,109,117,108,97,116,111,114]⟩⟩
noncomputable def Mine.hz170 : Str := ⟨⟨[115,101,97,114,99,104,95,114,101,118,101,114,115,101]⟩⟩
noncomputable def Mine.hz171 : Str := ⟨⟨[95,108,97,119,95,112,105,101,99,101,115]⟩⟩
noncomputable def Mine.hz172 : Str := ⟨⟨[95,108,97,119,95,104,105,116]⟩⟩
noncomputable def Mine.hz173 : Str := ⟨⟨[95,108,97,119,95,102,105,110,100,101,114]⟩⟩
noncomputable def Mine.hz174 : Str := ⟨⟨[95,108,97,119,95,114,111,119,115]⟩⟩
noncomputable def Mine.hz175 : Str := ⟨⟨[108,97,119]⟩⟩
noncomputable def Mine.hz176 : Str := ⟨⟨[60,109,111,100,117,108,101,62]⟩⟩
noncomputable def Mine.hz177 : Str := ⟨⟨[115,101,108,102]⟩⟩
noncomputable def Mine.hz178 : Str := ⟨⟨[115,112,108,105,116,99,104,97,114,115]⟩⟩
noncomputable def Mine.hz179 : Str := ⟨⟨[95,86,97,108,117,101,70,111,114,109,97,116,116,101,114,46,95,95,105,110,105,116,95,95]⟩⟩
noncomputable def Mine.hz180 : Str := ⟨⟨[95,95,105,110,105,116,95,95]⟩⟩
noncomputable def Mine.hz181 : Str := ⟨⟨[99,112,121,51,49,51,46,101,109,97,105,108,46,104,101,97,100,101,114]⟩⟩
noncomputable def Mine.hz182 : Str := ⟨⟨[95,86,97,108,117,101,70,111,114,109,97,116,116,101,114,46,95,115,116,114]⟩⟩
noncomputable def Mine.hz183 : Str := ⟨⟨[95,115,116,114]⟩⟩
noncomputable def Mine.hz184 : Str := ⟨⟨[95,86,97,108,117,101,70,111,114,109,97,116,116,101,114,46,95,95,115,116,114,95,95]⟩⟩
noncomputable def Mine.hz185 : Str := ⟨⟨[95,95,115,116,114,95,95]⟩⟩
noncomputable def Mine.hz186 : Str := ⟨⟨[95,86,97,108,117,101,70,111,114,109,97,116,116,101,114,46,110,101,119,108,105,110,101]⟩⟩
noncomputable def Mine.hz187 : Str := ⟨⟨[110,101,119,108,105,110,101]⟩⟩
noncomputable def Mine.hz188 : Str := ⟨⟨[95,86,97,108,117,101,70,111,114,109,97,116,116,101,114,46,97,100,100,95,116,114,97,110,115,105,116,105,111,110]⟩⟩
noncomputable def Mine.hz189 : Str := ⟨⟨[97,100,100,95,116,114,97,110,115,105,116,105,111,110]⟩⟩
noncomputable def Mine.hz190 : Str := ⟨⟨[102,119,115]⟩⟩
noncomputable def Mine.hz191 : Str := ⟨⟨[115,116,114,105,110,103]⟩⟩
noncomputable def Mine.hz192 : Str := ⟨⟨[95,86,97,108,117,101,70,111,114,109,97,116,116,101,114,46,102,101,101,100]⟩⟩
noncomputable def Mine.hz193 : Str := ⟨⟨[102,101,101,100]⟩⟩
noncomputable def Mine.hz194 : Str := ⟨⟨[95,86,97,108,117,101,70,111,114,109,97,116,116,101,114,46,95,109,97,120,108,101,110,103,116,104,115]⟩⟩
noncomputable def Mine.hz195 : Str := ⟨⟨[95,109,97,120,108,101,110,103,116,104,115]⟩⟩
noncomputable def Mine.hz196 : Str := ⟨⟨[95,86,97,108,117,101,70,111,114,109,97,116,116,101,114,46,95,97,115,99,105,105,95,115,112,108,105,116]⟩⟩
noncomputable def Mine.hz197 : Str := ⟨⟨[95,97,115,99,105,105,95,115,112,108,105,116]⟩⟩
noncomputable def Mine.hz198 : Str := ⟨⟨[95,86,97,108,117,101,70,111,114,109,97,116,116,101,114,46,95,97,112,112,101,110,100,95,99,104,117,110,107]⟩⟩
noncomputable def Mine.hz199 : Str := ⟨⟨[95,97,112,112,101,110,100,95,99,104,117,110,107]⟩⟩
noncomputable def Mine.hz200 : Str := ⟨⟨[95,95,109,111,100,117,108,101,95,95]⟩⟩
noncomputable def Mine.hz201 : Str := ⟨⟨[95,95,102,105,114,115,116,108,105,110,101,110,111,95,95]⟩⟩
noncomputable def Mine.hz202 : Str := ⟨⟨[95,95,115,116,97,116,105,99,95,97,116,116,114,105,98,117,116,101,115,95,95]⟩⟩
noncomputable def Mine.hz203 : Str := ⟨⟨[95,95,100,105,99,116,95,95]⟩⟩
noncomputable def Mine.hz204 : Str := ⟨⟨[95,95,119,101,97,107,114,101,102,95,95]⟩⟩
noncomputable def Mine.hz205 : Str := ⟨⟨[95,95,99,108,97,115,115,95,95]⟩⟩
noncomputable def Mine.hz206 : Str := ⟨⟨[95,65,99,99,117,109,117,108,97,116,111,114,46,95,95,105,110,105,116,95,95]⟩⟩
noncomputable def Mine.hz207 : Str := ⟨⟨[95,65,99,99,117,109,117,108,97,116,111,114,46,112,117,115,104]⟩⟩
noncomputable def Mine.hz208 : Str := ⟨⟨[112,117,115,104]⟩⟩
noncomputable def Mine.hz209 : Str := ⟨⟨[95,65,99,99,117,109,117,108,97,116,111,114,46,112,111,112,95,102,114,111,109]⟩⟩
noncomputable def Mine.hz210 : Str := ⟨⟨[112,111,112,95,102,114,111,109]⟩⟩
noncomputable def Mine.hz211 : Str := ⟨⟨[95,65,99,99,117,109,117,108,97,116,111,114,46,112,111,112]⟩⟩
noncomputable def Mine.hz212 : Str := ⟨⟨[112,111,112]⟩⟩
noncomputable def Mine.hz213 : Str := ⟨⟨[95,65,99,99,117,109,117,108,97,116,111,114,46,95,95,108,101,110,95,95]⟩⟩
noncomputable def Mine.hz214 : Str := ⟨⟨[95,95,108,101,110,95,95]⟩⟩
noncomputable def Mine.hz215 : Str := ⟨⟨[95,65,99,99,117,109,117,108,97,116,111,114,46,95,95,115,116,114,95,95]⟩⟩
noncomputable def Mine.hz216 : Str := ⟨⟨[95,65,99,99,117,109,117,108,97,116,111,114,46,114,101,115,101,116]⟩⟩
noncomputable def Mine.hz217 : Str := ⟨⟨[114,101,115,101,116]⟩⟩
noncomputable def Mine.hz218 : Str := ⟨⟨[95,65,99,99,117,109,117,108,97,116,111,114,46,105,115,95,111,110,108,121,119,115]⟩⟩
noncomputable def Mine.hz219 : Str := ⟨⟨[105,115,95,111,110,108,121,119,115]⟩⟩
noncomputable def Mine.hz220 : Str := ⟨⟨[95,65,99,99,117,109,117,108,97,116,111,114,46,112,97,114,116,95,99,111,117,110,116]⟩⟩
noncomputable def Mine.hz221 : Str := ⟨⟨[112,97,114,116,95,99,111,117,110,116]⟩⟩
noncomputable def Mine.hz222 : Str := ⟨⟨[115,105,103,110]⟩⟩
noncomputable def Mine.hz223 : Str := ⟨⟨[112,108,97,99,101]⟩⟩
noncomputable def Mine.hz224 : Str := ⟨⟨[115,105,122,101]⟩⟩
noncomputable def hdz.zo_39 (P : Params) : Obj := { cls := .type "dict", data := .dict #[Mine.hZe P Mine.hz0 1 (.str Mine.hz1 160), Mine.hZe P Mine.hz2 2 (.builtin "builtins.__doc__:str#opaque"), Mine.hZe P Mine.hz3 3 (.builtin "builtins.__package__:str#opaque"), Mine.hZe P Mine.hz4 4 (.builtin "builtins.__loader__:shared#opaque"), Mine.hZe P Mine.hz5 5 (.builtin "builtins.__spec__#opaque"), Mine.hZe P Mine.hz6 6 (.builtin "__build_class__"), Mine.hZe P Mine.hz7 7 (.builtin "__import__"), Mine.hZe P Mine.hz8 8 (.builtin "abs"), Mine.hZe P Mine.hz9 9 (.builtin "all"), Mine.hZe P Mine.hz10 10 (.builtin "any"), Mine.hZe P Mine.hz11 11 (.builtin "ascii"), Mine.hZe P Mine.hz12 12 (.builtin "bin"), Mine.hZe P Mine.hz13 13 (.builtin "breakpoint"), Mine.hZe P Mine.hz14 14 (.builtin "callable"), Mine.hZe P Mine.hz15 15 (.builtin "chr"), Mine.hZe P Mine.hz16 16 (.builtin "compile"), Mine.hZe P Mine.hz17 17 (.builtin "delattr"), Mine.hZe P Mine.hz18 18 (.builtin "dir"), Mine.hZe P Mine.hz19 19 (.builtin "divmod"), Mine.hZe P Mine.hz20 20 (.builtin "eval"), Mine.hZe P Mine.hz21 21 (.builtin "exec"), Mine.hZe P Mine.hz22 22 (.builtin "format"), Mine.hZe P Mine.hz23 23 (.builtin "getattr"), Mine.hZe P Mine.hz24 24 (.builtin "globals"), Mine.hZe P Mine.hz25 25 (.builtin "hasattr"), Mine.hZe P Mine.hz26 26 (.builtin "hash"), Mine.hZe P Mine.hz27 27 (.builtin "hex"), Mine.hZe P ⟨⟨[105,100]⟩⟩ 28 (.builtin "id"), Mine.hZe P Mine.hz28 29 (.builtin "input"), Mine.hZe P Mine.hz29 30 (.builtin "isinstance"), Mine.hZe P Mine.hz30 31 (.builtin "issubclass"), Mine.hZe P Mine.hz31 32 (.builtin "iter"), Mine.hZe P Mine.hz32 33 (.builtin "aiter"), Mine.hZe P Mine.hz33 34 (.builtin "len"), Mine.hZe P Mine.hz34 35 (.builtin "locals"), Mine.hZe P Mine.hz35 36 (.builtin "max"), Mine.hZe P Mine.hz36 37 (.builtin "min"), Mine.hZe P Mine.hz37 38 (.builtin "next"), Mine.hZe P Mine.hz38 39 (.builtin "anext"), Mine.hZe P Mine.hz39 40 (.builtin "oct"), Mine.hZe P Mine.hz40 41 (.builtin "ord"), Mine.hZe P Mine.hz41 42 (.builtin "pow"), Mine.hZe P Mine.hz42 43 (.builtin "print"), Mine.hZe P Mine.hz43 44 (.builtin "repr"), Mine.hZe P Mine.hz44 45 (.builtin "round"), Mine.hZe P Mine.hz45 46 (.builtin "setattr"), Mine.hZe P Mine.hz46 47 (.builtin "sorted"), Mine.hZe P Mine.hz47 48 (.builtin "sum"), Mine.hZe P Mine.hz48 49 (.builtin "vars"), Mine.hZe P Mine.hz49 50 (.none), Mine.hZe P Mine.hz50 51 (Value.ellipsis), Mine.hZe P Mine.hz51 52 (Value.notImplemented), Mine.hZe P Mine.hz52 53 (.bool false), Mine.hZe P Mine.hz53 54 (.bool true), Mine.hZe P Mine.hz54 55 (.type "bool"), Mine.hZe P Mine.hz55 56 (.type "memoryview"), Mine.hZe P Mine.hz56 57 (.type "bytearray"), Mine.hZe P Mine.hz57 58 (.type "bytes"), Mine.hZe P Mine.hz58 59 (.type "classmethod"), Mine.hZe P Mine.hz59 60 (.type "complex"), Mine.hZe P Mine.hz60 61 (.type "dict"), Mine.hZe P Mine.hz61 62 (.type "enumerate"), Mine.hZe P Mine.hz62 63 (.type "filter"), Mine.hZe P Mine.hz63 64 (.type "float"), Mine.hZe P Mine.hz64 65 (.type "frozenset"), Mine.hZe P Mine.hz65 66 (.type "property"), Mine.hZe P Mine.hz66 67 (.type "int"), Mine.hZe P Mine.hz67 68 (.type "list"), Mine.hZe P Mine.hz68 69 (.type "map"), Mine.hZe P Mine.hz69 70 (.type "object"), Mine.hZe P Mine.hz70 71 (.type "range"), Mine.hZe P Mine.hz71 72 (.type "reversed"), Mine.hZe P Mine.hz72 73 (.type "set"), Mine.hZe P Mine.hz73 74 (.type "slice"), Mine.hZe P Mine.hz74 75 (.type "staticmethod"), Mine.hZe P Mine.hz75 76 (.type "str"), Mine.hZe P Mine.hz76 77 (.type "super"), Mine.hZe P Mine.hz77 78 (.type "tuple"), Mine.hZe P Mine.hz78 79 (.type "type"), Mine.hZe P Mine.hz79 80 (.type "zip"), Mine.hZe P Mine.hz80 81 (.bool true), Mine.hZe P Mine.hz81 82 (.type "BaseException"), Mine.hZe P Mine.hz82 83 (.type "BaseExceptionGroup"), Mine.hZe P Mine.hz83 84 (.type "Exception"), Mine.hZe P Mine.hz84 85 (.type "GeneratorExit"), Mine.hZe P Mine.hz85 86 (.type "KeyboardInterrupt"), Mine.hZe P Mine.hz86 87 (.type "SystemExit"), Mine.hZe P Mine.hz87 88 (.type "ArithmeticError"), Mine.hZe P Mine.hz88 89 (.type "AssertionError"), Mine.hZe P Mine.hz89 90 (.type "AttributeError"), Mine.hZe P Mine.hz90 91 (.type "BufferError"), Mine.hZe P Mine.hz91 92 (.type "EOFError"), Mine.hZe P Mine.hz92 93 (.type "ImportError"), Mine.hZe P Mine.hz93 94 (.type "LookupError"), Mine.hZe P Mine.hz94 95 (.type "MemoryError"), Mine.hZe P Mine.hz95 96 (.type "NameError"), Mine.hZe P Mine.hz96 97 (.type "OSError"), Mine.hZe P Mine.hz97 98 (.type "ReferenceError"), Mine.hZe P Mine.hz98 99 (.type "RuntimeError"), Mine.hZe P Mine.hz99 100 (.type "StopAsyncIteration"), Mine.hZe P Mine.hz100 101 (.type "StopIteration"), Mine.hZe P Mine.hz101 102 (.type "SyntaxError"), Mine.hZe P Mine.hz102 103 (.type "SystemError"), Mine.hZe P Mine.hz103 104 (.type "TypeError"), Mine.hZe P Mine.hz104 105 (.type "ValueError"), Mine.hZe P Mine.hz105 106 (.type "Warning"), Mine.hZe P Mine.hz106 107 (.type "FloatingPointError"), Mine.hZe P Mine.hz107 108 (.type "OverflowError"), Mine.hZe P Mine.hz108 109 (.type "ZeroDivisionError"), Mine.hZe P Mine.hz109 110 (.type "BytesWarning"), Mine.hZe P Mine.hz110 111 (.type "DeprecationWarning"), Mine.hZe P Mine.hz111 112 (.type "EncodingWarning"), Mine.hZe P Mine.hz112 113 (.type "FutureWarning"), Mine.hZe P Mine.hz113 114 (.type "ImportWarning"), Mine.hZe P Mine.hz114 115 (.type "PendingDeprecationWarning"), Mine.hZe P Mine.hz115 116 (.type "ResourceWarning"), Mine.hZe P Mine.hz116 117 (.type "RuntimeWarning"), Mine.hZe P Mine.hz117 118 (.type "SyntaxWarning"), Mine.hZe P Mine.hz118 119 (.type "UnicodeWarning"), Mine.hZe P Mine.hz119 120 (.type "UserWarning"), Mine.hZe P Mine.hz120 121 (.type "BlockingIOError"), Mine.hZe P Mine.hz121 122 (.type "ChildProcessError"), Mine.hZe P Mine.hz122 123 (.type "ConnectionError"), Mine.hZe P Mine.hz123 124 (.type "FileExistsError"), Mine.hZe P Mine.hz124 125 (.type "FileNotFoundError"), Mine.hZe P Mine.hz125 126 (.type "InterruptedError"), Mine.hZe P Mine.hz126 127 (.type "IsADirectoryError"), Mine.hZe P Mine.hz127 128 (.type "NotADirectoryError"), Mine.hZe P Mine.hz128 129 (.type "PermissionError"), Mine.hZe P Mine.hz129 130 (.type "ProcessLookupError"), Mine.hZe P Mine.hz130 131 (.type "TimeoutError"), Mine.hZe P Mine.hz131 132 (.type "IndentationError"), Mine.hZe P Mine.hz132 133 (.type "_IncompleteInputError"), Mine.hZe P Mine.hz133 134 (.type "IndexError"), Mine.hZe P Mine.hz134 135 (.type "KeyError"), Mine.hZe P Mine.hz135 136 (.type "ModuleNotFoundError"), Mine.hZe P Mine.hz136 137 (.type "NotImplementedError"), Mine.hZe P Mine.hz137 138 (.type "PythonFinalizationError"), Mine.hZe P Mine.hz138 139 (.type "RecursionError"), Mine.hZe P Mine.hz139 140 (.type "UnboundLocalError"), Mine.hZe P Mine.hz140 141 (.type "UnicodeError"), Mine.hZe P Mine.hz141 142 (.type "BrokenPipeError"), Mine.hZe P Mine.hz142 143 (.type "ConnectionAbortedError"), Mine.hZe P Mine.hz143 144 (.type "ConnectionRefusedError"), Mine.hZe P Mine.hz144 145 (.type "ConnectionResetError"), Mine.hZe P Mine.hz145 146 (.type "TabError"), Mine.hZe P Mine.hz146 147 (.type "UnicodeDecodeError"), Mine.hZe P Mine.hz147 148 (.type "UnicodeEncodeError"), Mine.hZe P Mine.hz148 149 (.type "UnicodeTranslateError"), Mine.hZe P Mine.hz149 150 (.type "ExceptionGroup"), Mine.hZe P Mine.hz150 151 (.type "OSError"), Mine.hZe P Mine.hz151 152 (.type "OSError"), Mine.hZe P Mine.hz152 153 (.builtin "open"), Mine.hZe P Mine.hz153 154 (.builtin "builtins.quit#opaque"), Mine.hZe P Mine.hz154 155 (.builtin "builtins.exit#opaque"), Mine.hZe P Mine.hz155 156 (.builtin "builtins.copyright#opaque"), Mine.hZe P Mine.hz156 157 (.builtin "builtins.credits#opaque"), Mine.hZe P Mine.hz157 158 (.builtin "builtins.license#opaque"), Mine.hZe P Mine.hz158 159 (.builtin "builtins.help#opaque")] 159 }
noncomputable def hdz.zo_40 (P : Params) : Obj := { cls := .type "dict", data := .dict #[Mine.hZe P Mine.hz1 162 (.ref 4), Mine.hZe P Mine.hz159 163 (.ref 5)] 2 }
noncomputable def hdz.zo_41 (P : Params) : Obj := { cls := .none, data := .dict #[] }
noncomputable def hdz.zo_42 (P : Params) : Obj := { cls := .type "dict", data := .dict #[Mine.hZe P Mine.hz0 165 (.str Mine.hz160 419), Mine.hZe P Mine.hz2 166 (.none), Mine.hZe P Mine.hz3 167 (.none), Mine.hZe P Mine.hz4 168 (.builtin "__main__.__loader__#opaque"), Mine.hZe P Mine.hz5 169 (.none), Mine.hZe P Mine.hz161 170 (.ref 6), Mine.hZe P Mine.hz162 171 (.ref 4), Mine.hZe P Mine.hz163 173 (.str Mine.hz164 172), Mine.hZe P Mine.hz165 174 (.none), Mine.hZe P Mine.hz166 193 (.ref 21), Mine.hZe P ⟨⟨[78,76]⟩⟩ 197 (.str ⟨⟨[10]⟩⟩ 196), Mine.hZe P Mine.hz167 199 (.str ⟨⟨[]⟩⟩ 198), Mine.hZe P Mine.hz168 307 (.ref 94), Mine.hZe P Mine.hz169 403 (.ref 178), Mine.hZe P Mine.hz170 418 (.ref 189), Mine.hZe P Mine.hz171 429 (.ref 196), Mine.hZe P Mine.hz172 440 (.ref 203), Mine.hZe P Mine.hz173 452 (.ref 210), Mine.hZe P Mine.hz174 458 (.ref 215), Mine.hZe P Mine.hz175 464 (.ref 220)] 20 }
noncomputable def hdz.zo_43 (P : Params) : Obj := { cls := .type "module", dict := some 0 }
noncomputable def hdz.zo_44 (P : Params) : Obj := { cls := .type "module", dict := some 3 }
noncomputable def hdz.zo_45 (P : Params) : Obj := { cls := .type "dict", data := .dict #[] }
noncomputable def hdz.zo_46 (P : Params) : Obj := { cls := .type "tuple", data := .seq #[] }
noncomputable def hdz.zo_47 (P : Params) : Obj := { cls := .none, data := .fields #[] }
noncomputable def hdz.zo_48 (P : Params) : Obj := { cls := .type "code", data := .fields #[.str Mine.hz176 176, .str Mine.hz176 177, .str Mine.hz164 178, .int 1 0, .int 0 0, .int 0 0, .int 0 0, .int 0 0, .ref 7, .bool false, .int 175 0, .ref 8, .none, .none, .none, .none, .int 179 0, .int 1 0, .str Mine.hz164 180] }
noncomputable def hdz.zo_49 (P : Params) : Obj := { cls := .type "frame", slots := #[some (.ref 9), some (.ref 3), some (.ref 3), none, some (.str Mine.hz159 164), none, some (.ref 0)] }
noncomputable def hdz.zo_51 (P : Params) : Obj := { cls := .none, data := .fields #[.int 1 0, .int 0 0, .ref 20, .int 7 0, .int 0 0, .ref 27, .int 73 0, .int 0 0, .ref 105, .int 110 0, .int 0 0, .ref 188, .int 126 0, .int 0 0, .ref 195, .int 136 0, .int 0 0, .ref 202, .int 140 0, .int 0 0, .ref 209, .int 151 0, .int 0 0, .ref 214, .int 174 0, .int 0 0, .ref 219] }
noncomputable def hdz.zo_52 (P : Params) : Obj := { cls := .type "code", data := .fields #[.str Mine.hz176 182, .str Mine.hz176 183, .str Mine.hz164 184, .int 1 0, .int 0 0, .int 0 0, .int 0 0, .int 0 0, .ref 11, .bool false, .int 181 0, .ref 12, .none, .none, .none, .none, .int 185 0, .int 1 0, .str Mine.hz164 186] }
noncomputable def hdz.zo_53 (P : Params) : Obj := { cls := .type "frame", slots := #[some (.ref 13), some (.ref 3), some (.ref 3), none, some (.str Mine.hz159 164), none, some (.ref 0)] }
noncomputable def hdz.zo_56 (P : Params) : Obj := { cls := .type "tuple", data := .seq #[.str ⟨⟨[107]⟩⟩ 190] }
noncomputable def hdz.zo_58 (P : Params) : Obj := { cls := .none, data := .func (Mine.hFd 0) }
noncomputable def hdz.zo_59 (P : Params) : Obj := { cls := .type "code", data := .fields #[.str Mine.hz166 187, .str Mine.hz166 188, .str Mine.hz164 189, .int 1 0, .int 1 0, .int 0 0, .int 0 0, .int 3 0, .ref 15, .bool true, .int 181 0, .ref 16, .none, .ref 17, .ref 18, .ref 19, .int 191 0, .int 1 0, .str Mine.hz164 192] }
noncomputable def hdz.zo_60 (P : Params) : Obj := { cls := .type "function", data := .func { Mine.hFd 0 with globals := 3, pyModule := .str Mine.hz159 164, code := .ref 20 } }
noncomputable def hdz.zo_63 (P : Params) : Obj := { cls := .type "tuple", data := .seq #[.str Mine.hz177 215, .str ⟨⟨[104,101,97,100,101,114,108,101,110]⟩⟩ 216, .str ⟨⟨[109,97,120,108,101,110]⟩⟩ 217, .str ⟨⟨[99,111,110,116,105,110,117,97,116,105,111,110,95,119,115]⟩⟩ 218, .str Mine.hz178 219] }
noncomputable def hdz.zo_65 (P : Params) : Obj := { cls := .none, data := .func { Mine.hFm 4 0 with qualname := Mine.hz179 } }
noncomputable def hdz.zo_66 (P : Params) : Obj := { cls := .type "code", data := .fields #[.str Mine.hz180 212, .str Mine.hz179 213, .str Mine.hz164 214, .int 9 0, .int 5 0, .int 0 0, .int 0 0, .int 3 0, .ref 29, .bool true, .int 181 0, .ref 30, .none, .ref 31, .ref 32, .ref 33, .int 220 0, .int 9 0, .str Mine.hz164 221] }
noncomputable def hdz.zo_67 (P : Params) : Obj := { cls := .type "function", data := .func { Mine.hFm 4 0 with qualname := Mine.hz179, globals := 3, pyModule := .str Mine.hz181 194, code := .ref 34 } }
noncomputable def hdz.zo_70 (P : Params) : Obj := { cls := .type "tuple", data := .seq #[.str Mine.hz177 226, .str ⟨⟨[108,105,110,101,115,101,112]⟩⟩ 227] }
noncomputable def hdz.zo_72 (P : Params) : Obj := { cls := .none, data := .func { Mine.hFm 4 1 with qualname := Mine.hz182 } }
noncomputable def hdz.zo_73 (P : Params) : Obj := { cls := .type "code", data := .fields #[.str Mine.hz183 223, .str Mine.hz182 224, .str Mine.hz164 225, .int 17 0, .int 2 0, .int 0 0, .int 0 0, .int 3 0, .ref 36, .bool true, .int 181 0, .ref 37, .none, .ref 38, .ref 39, .ref 40, .int 228 0, .int 17 0, .str Mine.hz164 229] }
noncomputable def hdz.zo_74 (P : Params) : Obj := { cls := .type "function", data := .func { Mine.hFm 4 1 with qualname := Mine.hz182, globals := 3, pyModule := .str Mine.hz181 194, code := .ref 41 } }
noncomputable def hdz.zo_77 (P : Params) : Obj := { cls := .type "tuple", data := .seq #[.str Mine.hz177 234] }
noncomputable def hdz.zo_79 (P : Params) : Obj := { cls := .none, data := .func { Mine.hFm 4 2 with qualname := Mine.hz184 } }
noncomputable def hdz.zo_80 (P : Params) : Obj := { cls := .type "code", data := .fields #[.str Mine.hz185 231, .str Mine.hz184 232, .str Mine.hz164 233, .int 21 0, .int 1 0, .int 0 0, .int 0 0, .int 3 0, .ref 43, .bool true, .int 181 0, .ref 44, .none, .ref 45, .ref 46, .ref 47, .int 235 0, .int 21 0, .str Mine.hz164 236] }
noncomputable def hdz.zo_81 (P : Params) : Obj := { cls := .type "function", data := .func { Mine.hFm 4 2 with qualname := Mine.hz184, globals := 3, pyModule := .str Mine.hz181 194, code := .ref 48 } }
noncomputable def hdz.zo_84 (P : Params) : Obj := { cls := .type "tuple", data := .seq #[.str Mine.hz177 241, .str ⟨⟨[101,110,100,95,111,102,95,108,105,110,101]⟩⟩ 242] }
noncomputable def hdz.zo_86 (P : Params) : Obj := { cls := .none, data := .func { Mine.hFm 4 3 with qualname := Mine.hz186 } }
noncomputable def hdz.zo_87 (P : Params) : Obj := { cls := .type "code", data := .fields #[.str Mine.hz187 238, .str Mine.hz186 239, .str Mine.hz164 240, .int 24 0, .int 1 0, .int 0 0, .int 0 0, .int 3 0, .ref 50, .bool true, .int 181 0, .ref 51, .none, .ref 52, .ref 53, .ref 54, .int 243 0, .int 24 0, .str Mine.hz164 244] }
noncomputable def hdz.zo_88 (P : Params) : Obj := { cls := .type "function", data := .func { Mine.hFm 4 3 with qualname := Mine.hz186, globals := 3, pyModule := .str Mine.hz181 194, code := .ref 55 } }
noncomputable def hdz.zo_91 (P : Params) : Obj := { cls := .type "tuple", data := .seq #[.str Mine.hz177 249] }
noncomputable def hdz.zo_93 (P : Params) : Obj := { cls := .none, data := .func { Mine.hFm 4 4 with qualname := Mine.hz188 } }
noncomputable def hdz.zo_94 (P : Params) : Obj := { cls := .type "code", data := .fields #[.str Mine.hz189 246, .str Mine.hz188 247, .str Mine.hz164 248, .int 35 0, .int 1 0, .int 0 0, .int 0 0, .int 3 0, .ref 57, .bool true, .int 181 0, .ref 58, .none, .ref 59, .ref 60, .ref 61, .int 250 0, .int 35 0, .str Mine.hz164 251] }
noncomputable def hdz.zo_95 (P : Params) : Obj := { cls := .type "function", data := .func { Mine.hFm 4 4 with qualname := Mine.hz188, globals := 3, pyModule := .str Mine.hz181 194, code := .ref 62 } }
noncomputable def hdz.zo_98 (P : Params) : Obj := { cls := .type "tuple", data := .seq #[.str Mine.hz177 256, .str Mine.hz190 257, .str Mine.hz191 258, .str ⟨⟨[99,104,97,114,115,101,116]⟩⟩ 259] }
noncomputable def hdz.zo_100 (P : Params) : Obj := { cls := .none, data := .func { Mine.hFm 4 5 with qualname := Mine.hz192 } }
noncomputable def hdz.zo_101 (P : Params) : Obj := { cls := .type "code", data := .fields #[.str Mine.hz193 253, .str Mine.hz192 254, .str Mine.hz164 255, .int 38 0, .int 4 0, .int 0 0, .int 0 0, .int 3 0, .ref 64, .bool true, .int 181 0, .ref 65, .none, .ref 66, .ref 67, .ref 68, .int 260 0, .int 38 0, .str Mine.hz164 261] }
noncomputable def hdz.zo_102 (P : Params) : Obj := { cls := .type "function", data := .func { Mine.hFm 4 5 with qualname := Mine.hz192, globals := 3, pyModule := .str Mine.hz181 194, code := .ref 69 } }
noncomputable def hdz.zo_105 (P : Params) : Obj := { cls := .type "tuple", data := .seq #[.str Mine.hz177 266] }
noncomputable def hdz.zo_107 (P : Params) : Obj := { cls := .none, data := .func { Mine.hFm 4 6 with qualname := Mine.hz194 } }
noncomputable def hdz.zo_108 (P : Params) : Obj := { cls := .type "code", data := .fields #[.str Mine.hz195 263, .str Mine.hz194 264, .str Mine.hz164 265, .int 41 0, .int 1 0, .int 0 0, .int 0 0, .int 3 0, .ref 71, .bool true, .int 181 0, .ref 72, .none, .ref 73, .ref 74, .ref 75, .int 267 0, .int 41 0, .str Mine.hz164 268] }
noncomputable def hdz.zo_109 (P : Params) : Obj := { cls := .type "function", data := .func { Mine.hFm 4 6 with qualname := Mine.hz194, globals := 3, pyModule := .str Mine.hz181 194, code := .ref 76 } }
noncomputable def hdz.zo_112 (P : Params) : Obj := { cls := .type "tuple", data := .seq #[.str Mine.hz177 273, .str Mine.hz190 274, .str Mine.hz191 275, .str Mine.hz178 276] }
noncomputable def hdz.zo_114 (P : Params) : Obj := { cls := .none, data := .func { Mine.hFm 4 7 with qualname := Mine.hz196 } }
noncomputable def hdz.zo_115 (P : Params) : Obj := { cls := .type "code", data := .fields #[.str Mine.hz197 270, .str Mine.hz196 271, .str Mine.hz164 272, .int 44 0, .int 4 0, .int 0 0, .int 0 0, .int 3 0, .ref 78, .bool true, .int 181 0, .ref 79, .none, .ref 80, .ref 81, .ref 82, .int 277 0, .int 44 0, .str Mine.hz164 278] }
noncomputable def hdz.zo_116 (P : Params) : Obj := { cls := .type "function", data := .func { Mine.hFm 4 7 with qualname := Mine.hz196, globals := 3, pyModule := .str Mine.hz181 194, code := .ref 83 } }
noncomputable def hdz.zo_119 (P : Params) : Obj := { cls := .type "tuple", data := .seq #[.str Mine.hz177 283, .str Mine.hz190 284, .str Mine.hz191 285, .str ⟨⟨[99,104]⟩⟩ 286, .str ⟨⟨[105]⟩⟩ 287, .str ⟨⟨[112,114,101,118,112,97,114,116]⟩⟩ 288, .str ⟨⟨[112,97,114,116]⟩⟩ 289, .str ⟨⟨[114,101,109,97,105,110,100,101,114]⟩⟩ 290] }
noncomputable def hdz.zo_121 (P : Params) : Obj := { cls := .none, data := .func { Mine.hFm 4 8 with qualname := Mine.hz198 } }
noncomputable def hdz.zo_122 (P : Params) : Obj := { cls := .type "code", data := .fields #[.str Mine.hz199 280, .str Mine.hz198 281, .str Mine.hz164 282, .int 47 0, .int 3 0, .int 0 0, .int 0 0, .int 3 0, .ref 85, .bool true, .int 181 0, .ref 86, .none, .ref 87, .ref 88, .ref 89, .int 291 0, .int 47 0, .str Mine.hz164 292] }
noncomputable def hdz.zo_123 (P : Params) : Obj := { cls := .type "function", data := .func { Mine.hFm 4 8 with qualname := Mine.hz198, globals := 3, pyModule := .str Mine.hz181 194, code := .ref 90 } }
noncomputable def hdz.zo_124 (P : Params) : Obj := { cls := .type "tuple", data := .seq #[.str ⟨⟨[95,99,111,110,116,105,110,117,97,116,105,111,110,95,119,115]⟩⟩ 294, .str ⟨⟨[95,99,111,110,116,105,110,117,97,116,105,111,110,95,119,115,95,108,101,110]⟩⟩ 295, .str ⟨⟨[95,99,117,114,114,101,110,116,95,108,105,110,101]⟩⟩ 296, .str ⟨⟨[95,108,105,110,101,115]⟩⟩ 297, .str ⟨⟨[95,109,97,120,108,101,110]⟩⟩ 298, .str ⟨⟨[95,115,112,108,105,116,99,104,97,114,115]⟩⟩ 299] }
noncomputable def hdz.zo_125 (P : Params) : Obj := { cls := .type "dict", data := .dict #[Mine.hZe P Mine.hz200 207 (.str Mine.hz181 194), Mine.hZe P Mine.hz201 211 (.int 7 210), Mine.hZe P Mine.hz180 222 (.ref 35), Mine.hZe P Mine.hz183 230 (.ref 42), Mine.hZe P Mine.hz185 237 (.ref 49), Mine.hZe P Mine.hz187 245 (.ref 56), Mine.hZe P Mine.hz189 252 (.ref 63), Mine.hZe P Mine.hz193 262 (.ref 70), Mine.hZe P Mine.hz195 269 (.ref 77), Mine.hZe P Mine.hz197 279 (.ref 84), Mine.hZe P Mine.hz199 293 (.ref 91), Mine.hZe P Mine.hz202 300 (.ref 92), Mine.hZe P Mine.hz203 302 (.ref 95), Mine.hZe P Mine.hz204 304 (.ref 96), Mine.hZe P Mine.hz2 305 (.none)] 4 }
noncomputable def hdz.zo_126 (P : Params) : Obj := { cls := .type "type", data := .cls { name := Mine.hz168, bases := [.type "object"], mro := [.ref 94, .type "object"], ns := 93, qualname := Mine.hz168 }, slots := #[none, none, some (.str Mine.hz168 200), some (.str Mine.hz168 208), some (.builtin "object.__new__"), some (.bool true)] }
noncomputable def hdz.zo_127 (P : Params) : Obj := { cls := .type "getset_descriptor", data := .fields #[.str Mine.hz203 301, .ref 94, .builtin "function.__dict__", .builtin "function.__dict__#set"] }
noncomputable def hdz.zo_128 (P : Params) : Obj := { cls := .type "getset_descriptor", data := .fields #[.str Mine.hz204 303, .ref 94, .builtin "ExceptionGroup.__weakref__", .none] }
noncomputable def hdz.zo_129 (P : Params) : Obj := { cls := .type "tuple", data := .seq #[.type "list"] }
noncomputable def hdz.zo_130 (P : Params) : Obj := { cls := .type "cell", data := .cell (some (.ref 178)) }
noncomputable def hdz.zo_131 (P : Params) : Obj := { cls := .type "tuple", data := .seq #[.int 0 320] }
noncomputable def hdz.zo_132 (P : Params) : Obj := { cls := .type "tuple", data := .seq #[.ref 102] }
noncomputable def hdz.zo_133 (P : Params) : Obj := { cls := .type "tuple", data := .seq #[.str Mine.hz205 324] }
noncomputable def hdz.zo_135 (P : Params) : Obj := { cls := .type "tuple", data := .seq #[.str Mine.hz177 325, .str ⟨⟨[105,110,105,116,105,97,108,95,115,105,122,101]⟩⟩ 326] }
noncomputable def hdz.zo_137 (P : Params) : Obj := { cls := .none, data := .func { Mine.hFm 5 0 with qualname := Mine.hz206 } }
noncomputable def hdz.zo_138 (P : Params) : Obj := { cls := .type "code", data := .fields #[.str Mine.hz180 321, .str Mine.hz206 322, .str Mine.hz164 323, .int 75 0, .int 2 0, .int 0 0, .int 0 0, .int 3 0, .ref 109, .bool true, .int 181 0, .ref 110, .none, .ref 111, .ref 112, .ref 113, .int 327 0, .int 75 0, .str Mine.hz164 328] }
noncomputable def hdz.zo_139 (P : Params) : Obj := { cls := .type "function", data := .func { Mine.hFm 5 0 with qualname := Mine.hz206, globals := 3, closure := [(Mine.hz205, 102)], defaults := .ref 107, pyModule := .str Mine.hz181 194, code := .ref 114, closureTuple := .ref 108 } }
noncomputable def hdz.zo_142 (P : Params) : Obj := { cls := .type "tuple", data := .seq #[.str Mine.hz177 333, .str Mine.hz190 334, .str Mine.hz191 335] }
noncomputable def hdz.zo_144 (P : Params) : Obj := { cls := .none, data := .func { Mine.hFm 5 1 with qualname := Mine.hz207 } }
noncomputable def hdz.zo_145 (P : Params) : Obj := { cls := .type "code", data := .fields #[.str Mine.hz208 330, .str Mine.hz207 331, .str Mine.hz164 332, .int 79 0, .int 3 0, .int 0 0, .int 0 0, .int 3 0, .ref 116, .bool true, .int 181 0, .ref 117, .none, .ref 118, .ref 119, .ref 120, .int 336 0, .int 79 0, .str Mine.hz164 337] }
noncomputable def hdz.zo_146 (P : Params) : Obj := { cls := .type "function", data := .func { Mine.hFm 5 1 with qualname := Mine.hz207, globals := 3, pyModule := .str Mine.hz181 194, code := .ref 121 } }
noncomputable def hdz.zo_147 (P : Params) : Obj := { cls := .type "tuple", data := .seq #[.int 0 339] }
noncomputable def hdz.zo_150 (P : Params) : Obj := { cls := .type "tuple", data := .seq #[.str Mine.hz177 343, .str ⟨⟨[105]⟩⟩ 344, .str ⟨⟨[112,111,112,112,101,100]⟩⟩ 345] }
noncomputable def hdz.zo_152 (P : Params) : Obj := { cls := .none, data := .func { Mine.hFm 5 2 with qualname := Mine.hz209 } }
noncomputable def hdz.zo_153 (P : Params) : Obj := { cls := .type "code", data := .fields #[.str Mine.hz210 340, .str Mine.hz209 341, .str Mine.hz164 342, .int 82 0, .int 2 0, .int 0 0, .int 0 0, .int 3 0, .ref 124, .bool true, .int 181 0, .ref 125, .none, .ref 126, .ref 127, .ref 128, .int 346 0, .int 82 0, .str Mine.hz164 347] }
noncomputable def hdz.zo_154 (P : Params) : Obj := { cls := .type "function", data := .func { Mine.hFm 5 2 with qualname := Mine.hz209, globals := 3, defaults := .ref 123, pyModule := .str Mine.hz181 194, code := .ref 129 } }
noncomputable def hdz.zo_156 (P : Params) : Obj := { cls := .type "tuple", data := .seq #[.str Mine.hz205 352] }
noncomputable def hdz.zo_158 (P : Params) : Obj := { cls := .type "tuple", data := .seq #[.str Mine.hz177 353] }
noncomputable def hdz.zo_160 (P : Params) : Obj := { cls := .none, data := .func { Mine.hFm 5 3 with qualname := Mine.hz211 } }
noncomputable def hdz.zo_161 (P : Params) : Obj := { cls := .type "code", data := .fields #[.str Mine.hz212 349, .str Mine.hz211 350, .str Mine.hz164 351, .int 87 0, .int 1 0, .int 0 0, .int 0 0, .int 3 0, .ref 132, .bool true, .int 181 0, .ref 133, .none, .ref 134, .ref 135, .ref 136, .int 354 0, .int 87 0, .str Mine.hz164 355] }
noncomputable def hdz.zo_162 (P : Params) : Obj := { cls := .type "function", data := .func { Mine.hFm 5 3 with qualname := Mine.hz211, globals := 3, closure := [(Mine.hz205, 102)], pyModule := .str Mine.hz181 194, code := .ref 137, closureTuple := .ref 131 } }
noncomputable def hdz.zo_165 (P : Params) : Obj := { cls := .type "tuple", data := .seq #[.str Mine.hz177 360] }
noncomputable def hdz.zo_167 (P : Params) : Obj := { cls := .none, data := .func { Mine.hFm 5 4 with qualname := Mine.hz213 } }
noncomputable def hdz.zo_168 (P : Params) : Obj := { cls := .type "code", data := .fields #[.str Mine.hz214 357, .str Mine.hz213 358, .str Mine.hz164 359, .int 92 0, .int 1 0, .int 0 0, .int 0 0, .int 3 0, .ref 139, .bool true, .int 181 0, .ref 140, .none, .ref 141, .ref 142, .ref 143, .int 361 0, .int 92 0, .str Mine.hz164 362] }
noncomputable def hdz.zo_169 (P : Params) : Obj := { cls := .type "function", data := .func { Mine.hFm 5 4 with qualname := Mine.hz213, globals := 3, pyModule := .str Mine.hz181 194, code := .ref 144 } }
noncomputable def hdz.zo_172 (P : Params) : Obj := { cls := .type "tuple", data := .seq #[.str Mine.hz177 367] }
noncomputable def hdz.zo_174 (P : Params) : Obj := { cls := .none, data := .func { Mine.hFm 5 5 with qualname := Mine.hz215 } }
noncomputable def hdz.zo_175 (P : Params) : Obj := { cls := .type "code", data := .fields #[.str Mine.hz185 364, .str Mine.hz215 365, .str Mine.hz164 366, .int 95 0, .int 1 0, .int 0 0, .int 0 0, .int 3 0, .ref 146, .bool true, .int 181 0, .ref 147, .none, .ref 148, .ref 149, .ref 150, .int 368 0, .int 95 0, .str Mine.hz164 369] }
noncomputable def hdz.zo_176 (P : Params) : Obj := { cls := .type "function", data := .func { Mine.hFm 5 5 with qualname := Mine.hz215, globals := 3, pyModule := .str Mine.hz181 194, code := .ref 151 } }
noncomputable def hdz.zo_177 (P : Params) : Obj := { cls := .type "tuple", data := .seq #[.none] }
noncomputable def hdz.zo_180 (P : Params) : Obj := { cls := .type "tuple", data := .seq #[.str Mine.hz177 374, .str ⟨⟨[115,116,97,114,116,118,97,108]⟩⟩ 375] }
noncomputable def hdz.zo_182 (P : Params) : Obj := { cls := .none, data := .func { Mine.hFm 5 6 with qualname := Mine.hz216 } }
noncomputable def hdz.zo_183 (P : Params) : Obj := { cls := .type "code", data := .fields #[.str Mine.hz217 371, .str Mine.hz216 372, .str Mine.hz164 373, .int 98 0, .int 2 0, .int 0 0, .int 0 0, .int 3 0, .ref 154, .bool true, .int 181 0, .ref 155, .none, .ref 156, .ref 157, .ref 158, .int 376 0, .int 98 0, .str Mine.hz164 377] }
noncomputable def hdz.zo_184 (P : Params) : Obj := { cls := .type "function", data := .func { Mine.hFm 5 6 with qualname := Mine.hz216, globals := 3, defaults := .ref 153, pyModule := .str Mine.hz181 194, code := .ref 159 } }
noncomputable def hdz.zo_187 (P : Params) : Obj := { cls := .type "tuple", data := .seq #[.str Mine.hz177 382] }
noncomputable def hdz.zo_189 (P : Params) : Obj := { cls := .none, data := .func { Mine.hFm 5 7 with qualname := Mine.hz218 } }
noncomputable def hdz.zo_190 (P : Params) : Obj := { cls := .type "code", data := .fields #[.str Mine.hz219 379, .str Mine.hz218 380, .str Mine.hz164 381, .int 104 0, .int 1 0, .int 0 0, .int 0 0, .int 3 0, .ref 161, .bool true, .int 181 0, .ref 162, .none, .ref 163, .ref 164, .ref 165, .int 383 0, .int 104 0, .str Mine.hz164 384] }
noncomputable def hdz.zo_191 (P : Params) : Obj := { cls := .type "function", data := .func { Mine.hFm 5 7 with qualname := Mine.hz218, globals := 3, pyModule := .str Mine.hz181 194, code := .ref 166 } }
noncomputable def hdz.zo_193 (P : Params) : Obj := { cls := .type "tuple", data := .seq #[.str Mine.hz205 389] }
noncomputable def hdz.zo_195 (P : Params) : Obj := { cls := .type "tuple", data := .seq #[.str Mine.hz177 390] }
noncomputable def hdz.zo_197 (P : Params) : Obj := { cls := .none, data := .func { Mine.hFm 5 8 with qualname := Mine.hz220 } }
noncomputable def hdz.zo_198 (P : Params) : Obj := { cls := .type "code", data := .fields #[.str Mine.hz221 386, .str Mine.hz220 387, .str Mine.hz164 388, .int 107 0, .int 1 0, .int 0 0, .int 0 0, .int 3 0, .ref 169, .bool true, .int 181 0, .ref 170, .none, .ref 171, .ref 172, .ref 173, .int 391 0, .int 107 0, .str Mine.hz164 392] }
noncomputable def hdz.zo_199 (P : Params) : Obj := { cls := .type "function", data := .func { Mine.hFm 5 8 with qualname := Mine.hz220, globals := 3, closure := [(Mine.hz205, 102)], pyModule := .str Mine.hz181 194, code := .ref 174, closureTuple := .ref 168 } }
noncomputable def hdz.zo_200 (P : Params) : Obj := { cls := .type "tuple", data := .seq #[.str ⟨⟨[95,105,110,105,116,105,97,108,95,115,105,122,101]⟩⟩ 394] }
noncomputable def hdz.zo_201 (P : Params) : Obj := { cls := .type "dict", data := .dict #[Mine.hZe P Mine.hz200 315 (.str Mine.hz181 194), Mine.hZe P Mine.hz201 319 (.int 73 318), Mine.hZe P Mine.hz180 329 (.ref 115), Mine.hZe P Mine.hz208 338 (.ref 122), Mine.hZe P Mine.hz210 348 (.ref 130), Mine.hZe P Mine.hz212 356 (.ref 138), Mine.hZe P Mine.hz214 363 (.ref 145), Mine.hZe P Mine.hz185 370 (.ref 152), Mine.hZe P Mine.hz217 378 (.ref 160), Mine.hZe P Mine.hz219 385 (.ref 167), Mine.hZe P Mine.hz221 393 (.ref 175), Mine.hZe P Mine.hz202 395 (.ref 176), Mine.hZe P Mine.hz203 398 (.ref 179), Mine.hZe P Mine.hz204 400 (.ref 180), Mine.hZe P Mine.hz2 401 (.none)] 5 }
noncomputable def hdz.zo_202 (P : Params) : Obj := { cls := .type "type", data := .cls { name := Mine.hz169, bases := [.type "list"], mro := [.ref 178, .type "list", .type "object"], ns := 177, qualname := Mine.hz169 }, slots := #[some (.ref 99), none, some (.str Mine.hz169 308), some (.str Mine.hz169 316), some (.builtin "list.__new__"), some (.bool true)] }
noncomputable def hdz.zo_203 (P : Params) : Obj := { cls := .type "getset_descriptor", data := .fields #[.str Mine.hz203 397, .ref 178, .builtin "function.__dict__", .builtin "function.__dict__#set"] }
noncomputable def hdz.zo_204 (P : Params) : Obj := { cls := .type "getset_descriptor", data := .fields #[.str Mine.hz204 399, .ref 178, .builtin "ExceptionGroup.__weakref__", .none] }
noncomputable def hdz.zo_207 (P : Params) : Obj := { cls := .type "tuple", data := .seq #[.str ⟨⟨[112,114,111,103]⟩⟩ 409, .str ⟨⟨[99,104,97,114,115]⟩⟩ 410, .str ⟨⟨[99,111,108]⟩⟩ 411, .str ⟨⟨[109]⟩⟩ 412, .str ⟨⟨[102,111,117,110,100]⟩⟩ 413, .str ⟨⟨[105]⟩⟩ 414, .str ⟨⟨[106]⟩⟩ 415] }
noncomputable def hdz.zo_209 (P : Params) : Obj := { cls := .none, data := .func (Mine.hFd 7) }
noncomputable def hdz.zo_210 (P : Params) : Obj := { cls := .type "code", data := .fields #[.str Mine.hz170 406, .str Mine.hz170 407, .str Mine.hz164 408, .int 110 0, .int 3 0, .int 0 0, .int 0 0, .int 3 0, .ref 183, .bool true, .int 181 0, .ref 184, .none, .ref 185, .ref 186, .ref 187, .int 416 0, .int 110 0, .str Mine.hz164 417] }
noncomputable def hdz.zo_211 (P : Params) : Obj := { cls := .type "function", data := .func { Mine.hFd 7 with globals := 3, pyModule := .str ⟨⟨[99,112,121,51,49,51,46,105,100,108,101,108,105,98,46,115,101,97,114,99,104,101,110,103,105,110,101]⟩⟩ 404, code := .ref 188 } }
noncomputable def hdz.zo_214 (P : Params) : Obj := { cls := .type "tuple", data := .seq #[.str ⟨⟨[116,101,120,116]⟩⟩ 424, .str ⟨⟨[112,105,101,99,101,115]⟩⟩ 425, .str Mine.hz222 426] }
noncomputable def hdz.zo_216 (P : Params) : Obj := { cls := .none, data := .func (Mine.hFd 9) }
noncomputable def hdz.zo_217 (P : Params) : Obj := { cls := .type "code", data := .fields #[.str Mine.hz171 421, .str Mine.hz171 422, .str Mine.hz164 423, .int 126 0, .int 1 0, .int 0 0, .int 0 0, .int 3 0, .ref 190, .bool true, .int 181 0, .ref 191, .none, .ref 192, .ref 193, .ref 194, .int 427 0, .int 126 0, .str Mine.hz164 428] }
noncomputable def hdz.zo_218 (P : Params) : Obj := { cls := .type "function", data := .func { Mine.hFd 9 with globals := 3, pyModule := .str Mine.hz160 419, code := .ref 195 } }
noncomputable def hdz.zo_221 (P : Params) : Obj := { cls := .type "tuple", data := .seq #[.str Mine.hz223 433, .str Mine.hz224 434, .str ⟨⟨[104,105,116]⟩⟩ 435] }
noncomputable def hdz.zo_222 (P : Params) : Obj := { cls := .type "tuple", data := .seq #[.str Mine.hz223 436, .str Mine.hz224 437] }
noncomputable def hdz.zo_223 (P : Params) : Obj := { cls := .none, data := .func (Mine.hFd 10) }
noncomputable def hdz.zo_224 (P : Params) : Obj := { cls := .type "code", data := .fields #[.str Mine.hz172 430, .str Mine.hz172 431, .str Mine.hz164 432, .int 136 0, .int 2 0, .int 0 0, .int 0 0, .int 3 0, .ref 197, .bool true, .int 181 0, .ref 198, .none, .ref 199, .ref 200, .ref 201, .int 438 0, .int 136 0, .str Mine.hz164 439] }
noncomputable def hdz.zo_225 (P : Params) : Obj := { cls := .type "function", data := .func { Mine.hFd 10 with globals := 3, pyModule := .str Mine.hz160 419, code := .ref 202 } }
noncomputable def hdz.zo_228 (P : Params) : Obj := { cls := .type "tuple", data := .seq #[.str Mine.hz222 444, .str Mine.hz224 445, .str ⟨⟨[95,108,97,119,95,115,101,97,114,99,104]⟩⟩ 446, .str ⟨⟨[102,105,110,100,101,114]⟩⟩ 447] }
noncomputable def hdz.zo_229 (P : Params) : Obj := { cls := .type "tuple", data := .seq #[.str Mine.hz222 448, .str Mine.hz224 449] }
noncomputable def hdz.zo_230 (P : Params) : Obj := { cls := .none, data := .func (Mine.hFd 11) }
noncomputable def hdz.zo_231 (P : Params) : Obj := { cls := .type "code", data := .fields #[.str Mine.hz173 441, .str Mine.hz173 442, .str Mine.hz164 443, .int 140 0, .int 2 0, .int 0 0, .int 0 0, .int 3 0, .ref 204, .bool true, .int 181 0, .ref 205, .none, .ref 206, .ref 207, .ref 208, .int 450 0, .int 140 0, .str Mine.hz164 451] }
noncomputable def hdz.zo_232 (P : Params) : Obj := { cls := .type "function", data := .func { Mine.hFd 11 with globals := 3, pyModule := .str Mine.hz160 419, code := .ref 209 } }
noncomputable def hdz.zo_235 (P : Params) : Obj := { cls := .none, data := .func (Mine.hFd 12) }
noncomputable def hdz.zo_236 (P : Params) : Obj := { cls := .type "code", data := .fields #[.str Mine.hz174 453, .str Mine.hz174 454, .str Mine.hz164 455, .int 151 0, .int 5 0, .int 0 0, .int 0 0, .int 3 0, .ref 211, .bool true, .int 181 0, .ref 212, .none, .none, .none, .ref 213, .int 456 0, .int 151 0, .str Mine.hz164 457] }
noncomputable def hdz.zo_237 (P : Params) : Obj := { cls := .type "function", data := .func { Mine.hFd 12 with globals := 3, pyModule := .str Mine.hz160 419, code := .ref 214 } }
noncomputable def hdz.zo_240 (P : Params) : Obj := { cls := .none, data := .func (Mine.hFd 13) }
noncomputable def hdz.zo_241 (P : Params) : Obj := { cls := .type "code", data := .fields #[.str Mine.hz175 459, .str Mine.hz175 460, .str Mine.hz164 461, .int 174 0, .int 1 0, .int 0 0, .int 0 0, .int 3 0, .ref 216, .bool true, .int 181 0, .ref 217, .none, .none, .none, .ref 218, .int 462 0, .int 174 0, .str Mine.hz164 463] }
noncomputable def hdz.zo_242 (P : Params) : Obj := { cls := .type "function", data := .func { Mine.hFd 13 with globals := 3, pyModule := .str Mine.hz160 419, code := .ref 219 } }
noncomputable def hdz.heap_242 : Params → Frag := fun P => (nat_lit 0, hdz.zo_39 P) :: (nat_lit 1, hdz.zo_40 P) :: (nat_lit 2, hdz.zo_41 P) :: (nat_lit 3, hdz.zo_42 P) :: (nat_lit 4, hdz.zo_43 P) :: (nat_lit 5, hdz.zo_44 P) :: (nat_lit 6, hdz.zo_45 P) :: (nat_lit 7, hdz.zo_46 P) :: (nat_lit 8, hdz.zo_47 P) :: (nat_lit 9, hdz.zo_48 P) :: (nat_lit 10, hdz.zo_49 P) :: (nat_lit 11, hdz.zo_46 P) :: (nat_lit 12, hdz.zo_51 P) :: (nat_lit 13, hdz.zo_52 P) :: (nat_lit 14, hdz.zo_53 P) :: (nat_lit 15, hdz.zo_46 P) :: (nat_lit 16, hdz.zo_47 P) :: (nat_lit 17, hdz.zo_56 P) :: (nat_lit 18, hdz.zo_46 P) :: (nat_lit 19, hdz.zo_58 P) :: (nat_lit 20, hdz.zo_59 P) :: (nat_lit 21, hdz.zo_60 P) :: (nat_lit 29, hdz.zo_46 P) :: (nat_lit 30, hdz.zo_47 P) :: (nat_lit 31, hdz.zo_63 P) :: (nat_lit 32, hdz.zo_46 P) :: (nat_lit 33, hdz.zo_65 P) :: (nat_lit 34, hdz.zo_66 P) :: (nat_lit 35, hdz.zo_67 P) :: (nat_lit 36, hdz.zo_46 P) :: (nat_lit 37, hdz.zo_47 P) :: (nat_lit 38, hdz.zo_70 P) :: (nat_lit 39, hdz.zo_46 P) :: (nat_lit 40, hdz.zo_72 P) :: (nat_lit 41, hdz.zo_73 P) :: (nat_lit 42, hdz.zo_74 P) :: (nat_lit 43, hdz.zo_46 P) :: (nat_lit 44, hdz.zo_47 P) :: (nat_lit 45, hdz.zo_77 P) :: (nat_lit 46, hdz.zo_46 P) :: (nat_lit 47, hdz.zo_79 P) :: (nat_lit 48, hdz.zo_80 P) :: (nat_lit 49, hdz.zo_81 P) :: (nat_lit 50, hdz.zo_46 P) :: (nat_lit 51, hdz.zo_47 P) :: (nat_lit 52, hdz.zo_84 P) :: (nat_lit 53, hdz.zo_46 P) :: (nat_lit 54, hdz.zo_86 P) :: (nat_lit 55, hdz.zo_87 P) :: (nat_lit 56, hdz.zo_88 P) :: (nat_lit 57, hdz.zo_46 P) :: (nat_lit 58, hdz.zo_47 P) :: (nat_lit 59, hdz.zo_91 P) :: (nat_lit 60, hdz.zo_46 P) :: (nat_lit 61, hdz.zo_93 P) :: (nat_lit 62, hdz.zo_94 P) :: (nat_lit 63, hdz.zo_95 P) :: (nat_lit 64, hdz.zo_46 P) :: (nat_lit 65, hdz.zo_47 P) :: (nat_lit 66, hdz.zo_98 P) :: (nat_lit 67, hdz.zo_46 P) :: (nat_lit 68, hdz.zo_100 P) :: (nat_lit 69, hdz.zo_101 P) :: (nat_lit 70, hdz.zo_102 P) :: (nat_lit 71, hdz.zo_46 P) :: (nat_lit 72, hdz.zo_47 P) :: (nat_lit 73, hdz.zo_105 P) :: (nat_lit 74, hdz.zo_46 P) :: (nat_lit 75, hdz.zo_107 P) :: (nat_lit 76, hdz.zo_108 P) :: (nat_lit 77, hdz.zo_109 P) :: (nat_lit 78, hdz.zo_46 P) :: (nat_lit 79, hdz.zo_47 P) :: (nat_lit 80, hdz.zo_112 P) :: (nat_lit 81, hdz.zo_46 P) :: (nat_lit 82, hdz.zo_114 P) :: (nat_lit 83, hdz.zo_115 P) :: (nat_lit 84, hdz.zo_116 P) :: (nat_lit 85, hdz.zo_46 P) :: (nat_lit 86, hdz.zo_47 P) :: (nat_lit 87, hdz.zo_119 P) :: (nat_lit 88, hdz.zo_46 P) :: (nat_lit 89, hdz.zo_121 P) :: (nat_lit 90, hdz.zo_122 P) :: (nat_lit 91, hdz.zo_123 P) :: (nat_lit 92, hdz.zo_124 P) :: (nat_lit 93, hdz.zo_125 P) :: (nat_lit 94, hdz.zo_126 P) :: (nat_lit 95, hdz.zo_127 P) :: (nat_lit 96, hdz.zo_128 P) :: (nat_lit 99, hdz.zo_129 P) :: (nat_lit 102, hdz.zo_130 P) :: (nat_lit 107, hdz.zo_131 P) :: (nat_lit 108, hdz.zo_132 P) :: (nat_lit 109, hdz.zo_133 P) :: (nat_lit 110, hdz.zo_47 P) :: (nat_lit 111, hdz.zo_135 P) :: (nat_lit 112, hdz.zo_46 P) :: (nat_lit 113, hdz.zo_137 P) :: (nat_lit 114, hdz.zo_138 P) :: (nat_lit 115, hdz.zo_139 P) :: (nat_lit 116, hdz.zo_46 P) :: (nat_lit 117, hdz.zo_47 P) :: (nat_lit 118, hdz.zo_142 P) :: (nat_lit 119, hdz.zo_46 P) :: (nat_lit 120, hdz.zo_144 P) :: (nat_lit 121, hdz.zo_145 P) :: (nat_lit 122, hdz.zo_146 P) :: (nat_lit 123, hdz.zo_147 P) :: (nat_lit 124, hdz.zo_46 P) :: (nat_lit 125, hdz.zo_47 P) :: (nat_lit 126, hdz.zo_150 P) :: (nat_lit 127, hdz.zo_46 P) :: (nat_lit 128, hdz.zo_152 P) :: (nat_lit 129, hdz.zo_153 P) :: (nat_lit 130, hdz.zo_154 P) :: (nat_lit 131, hdz.zo_132 P) :: (nat_lit 132, hdz.zo_156 P) :: (nat_lit 133, hdz.zo_47 P) :: (nat_lit 134, hdz.zo_158 P) :: (nat_lit 135, hdz.zo_46 P) :: (nat_lit 136, hdz.zo_160 P) :: (nat_lit 137, hdz.zo_161 P) :: (nat_lit 138, hdz.zo_162 P) :: (nat_lit 139, hdz.zo_46 P) :: (nat_lit 140, hdz.zo_47 P) :: (nat_lit 141, hdz.zo_165 P) :: (nat_lit 142, hdz.zo_46 P) :: (nat_lit 143, hdz.zo_167 P) :: (nat_lit 144, hdz.zo_168 P) :: (nat_lit 145, hdz.zo_169 P) :: (nat_lit 146, hdz.zo_46 P) :: (nat_lit 147, hdz.zo_47 P) :: (nat_lit 148, hdz.zo_172 P) :: (nat_lit 149, hdz.zo_46 P) :: (nat_lit 150, hdz.zo_174 P) :: (nat_lit 151, hdz.zo_175 P) :: (nat_lit 152, hdz.zo_176 P) :: (nat_lit 153, hdz.zo_177 P) :: (nat_lit 154, hdz.zo_46 P) :: (nat_lit 155, hdz.zo_47 P) :: (nat_lit 156, hdz.zo_180 P) :: (nat_lit 157, hdz.zo_46 P) :: (nat_lit 158, hdz.zo_182 P) :: (nat_lit 159, hdz.zo_183 P) :: (nat_lit 160, hdz.zo_184 P) :: (nat_lit 161, hdz.zo_46 P) :: (nat_lit 162, hdz.zo_47 P) :: (nat_lit 163, hdz.zo_187 P) :: (nat_lit 164, hdz.zo_46 P) :: (nat_lit 165, hdz.zo_189 P) :: (nat_lit 166, hdz.zo_190 P) :: (nat_lit 167, hdz.zo_191 P) :: (nat_lit 168, hdz.zo_132 P) :: (nat_lit 169, hdz.zo_193 P) :: (nat_lit 170, hdz.zo_47 P) :: (nat_lit 171, hdz.zo_195 P) :: (nat_lit 172, hdz.zo_46 P) :: (nat_lit 173, hdz.zo_197 P) :: (nat_lit 174, hdz.zo_198 P) :: (nat_lit 175, hdz.zo_199 P) :: (nat_lit 176, hdz.zo_200 P) :: (nat_lit 177, hdz.zo_201 P) :: (nat_lit 178, hdz.zo_202 P) :: (nat_lit 179, hdz.zo_203 P) :: (nat_lit 180, hdz.zo_204 P) :: (nat_lit 183, hdz.zo_46 P) :: (nat_lit 184, hdz.zo_47 P) :: (nat_lit 185, hdz.zo_207 P) :: (nat_lit 186, hdz.zo_46 P) :: (nat_lit 187, hdz.zo_209 P) :: (nat_lit 188, hdz.zo_210 P) :: (nat_lit 189, hdz.zo_211 P) :: (nat_lit 190, hdz.zo_46 P) :: (nat_lit 191, hdz.zo_47 P) :: (nat_lit 192, hdz.zo_214 P) :: (nat_lit 193, hdz.zo_46 P) :: (nat_lit 194, hdz.zo_216 P) :: (nat_lit 195, hdz.zo_217 P) :: (nat_lit 196, hdz.zo_218 P) :: (nat_lit 197, hdz.zo_46 P) :: (nat_lit 198, hdz.zo_47 P) :: (nat_lit 199, hdz.zo_221 P) :: (nat_lit 200, hdz.zo_222 P) :: (nat_lit 201, hdz.zo_223 P) :: (nat_lit 202, hdz.zo_224 P) :: (nat_lit 203, hdz.zo_225 P) :: (nat_lit 204, hdz.zo_46 P) :: (nat_lit 205, hdz.zo_47 P) :: (nat_lit 206, hdz.zo_228 P) :: (nat_lit 207, hdz.zo_229 P) :: (nat_lit 208, hdz.zo_230 P) :: (nat_lit 209, hdz.zo_231 P) :: (nat_lit 210, hdz.zo_232 P) :: (nat_lit 211, hdz.zo_46 P) :: (nat_lit 212, hdz.zo_47 P) :: (nat_lit 213, hdz.zo_235 P) :: (nat_lit 214, hdz.zo_236 P) :: (nat_lit 215, hdz.zo_237 P) :: (nat_lit 216, hdz.zo_46 P) :: (nat_lit 217, hdz.zo_47 P) :: (nat_lit 218, hdz.zo_240 P) :: (nat_lit 219, hdz.zo_241 P) :: (nat_lit 220, hdz.zo_242 P) :: []
end

section
namespace Mine
theorem om0 {a' b' c' : Int} : (((a' + b') + c') = (a' + (b' + c'))) := by lia
theorem om1 {a' : Nat} : (((a' + (1 : Nat)) - (1 : Nat)) = a') := by lia
theorem om2 {b' c' : Nat} {a' : Int} (h0' : ((0 : Int) ≤ a')) : ((0 : Int) ≤ ((((b' : Nat) : Int) + ((c' : Nat) : Int)) + a')) := by lia
theorem om3 {a' b' c' : Int} (h0' : (a' = (b' + c'))) (h1' : ((0 : Int) ≤ c')) : (b' ≤ a') := by lia
theorem om4 {a' b' : Int} (h0' : ((0 : Int) ≤ a')) : (b' ≤ (b' + a')) := by lia
theorem om5 {a' b' d' e' : Nat} {c' : Int} (h0' : ((((a' : Nat) : Int) + ((b' : Nat) : Int)) ≤ c')) : ((((a' : Nat) : Int) + ((b' : Nat) : Int)) ≤ ((((d' : Nat) : Int) + ((e' : Nat) : Int)) + c')) := by lia
theorem om9 {a' b' c' d' : Nat} (h0' : (a' < b')) : ((0 : Int) ≤ (((c' : Nat) : Int) + ((d' : Nat) : Int))) := by exact Int.natCast_nonneg _
theorem om11 {a' c' d' : Nat} {b' : Int} (h0' : (((a' : Nat) : Int) = b')) : (((((c' + d') + a') : Nat) : Int) = ((((c' : Nat) : Int) + ((d' : Nat) : Int)) + b')) := by lia
theorem om12 {a' b' c' d' : Nat} (h0' : ((a' + (b' * c')) ≤ d')) : (¬((a' + (b' * c')) > d')) := by exact Nat.not_lt.mpr (by assumption)
theorem om14 {b' c' d' : Nat} {a' : Int} (h0' : (a' ≤ (1000000 : Int))) (h1' : ((((b' : Nat) : Int) + ((c' : Nat) : Int)) ≤ a')) (h2' : ((1000000 : Nat) ≤ d')) : (((b' + (c' + (0 : Nat))) + (0 : Nat)) ≤ d') := by lia
theorem om15 {b' c' d' : Nat} {a' : Int} (h0' : (a' ≤ (1000000 : Int))) (h1' : (b' = c')) (h2' : (((c' : Nat) : Int) = a')) (h3' : ((1000000 : Nat) ≤ d')) : (c' ≤ d') := by lia
theorem om16 {a' b' c' : Nat} (h0' : ((a' + (b' + (1 : Nat))) < c')) : (((a' + (1 : Nat)) + b') < c') := by lia
theorem om17 {a' b' c' : Nat} (h0' : ((a' + ((5 : Nat) * (b' + (1 : Nat)))) < c')) : (((a' + (3 : Nat)) + ((5 : Nat) * b')) < c') := by lia
theorem om18 {a' b' c' : Nat} (h0' : ((a' + ((5 : Nat) * (b' + (1 : Nat)))) < c')) : (((a' + (1 : Nat)) + ((5 : Nat) * b')) < c') := by lia
theorem om19 {a' b' c' d' : Nat} (h0' : (a' ≤ b')) (h1' : ((c' + b') < d')) : ((c' + a') < d') := by lia
theorem om20 {a' b' c' d' : Nat} (h0' : (a' ≤ b')) (h1' : ((c' + ((5 : Nat) * b')) < d')) : ((c' + ((5 : Nat) * a')) < d') := by lia
theorem om21 {a' : Int} (h0' : (((0 : Int) ≤ a') ∧ (a' ≤ (1000000 : Int)))) : (((-(1000 : Int)) ≤ a') ∧ (a' ≤ (1000000 : Int))) := by lia
theorem om22 {a' b' : Int} (h0' : (((0 : Int) ≤ a') ∧ (a' ≤ (1000000 : Int)))) (h1' : (b' ≤ (1000000 : Int))) (h2' : ((0 : Int) ≤ b')) : (¬((a' + b') < (0 : Int))) := by lia
theorem om24 {a' b' : Nat} (h0' : ((a' + ((5 : Nat) * (1 : Nat))) < b')) : (a' < b') := by lia
theorem om25 {a' b' : Nat} (h0' : (a' < b')) : ((1 : Nat) ≤ (b' - a')) := by lia
theorem om26 {a' b' : Nat} (h0' : (a' < (b' + (1 : Nat)))) (h1' : (b' ≤ a')) : (a' = b') := by lia
theorem om27 {a' b' c' : Nat} (h0' : (a' = (b' + (1 : Nat)))) (h1' : (c' < b')) : (c' < (a' - (1 : Nat))) := by omega
theorem om28 {a' : Nat} (h0' : (a' ≤ (999 : Nat))) : (a' ≤ (100000 : Nat)) := by exact Nat.le_trans (by assumption) (by decide)
theorem om29 {a' : Nat} (h0' : (a' ≤ (1000 : Nat))) : (a' ≤ (100000 : Nat)) := by exact Nat.le_trans (by assumption) (by decide)
theorem om30 {a' : Int} (h0' : (((0 : Int) ≤ a') ∧ (a' ≤ (1000 : Int)))) : (((0 : Int) ≤ a') ∧ (a' ≤ (1000000 : Int))) := by lia
theorem om31 {a' b' : Int} (h0' : (a' ≤ (100000 : Int))) (h1' : (b' = a')) : (b' ≤ (1000000 : Int)) := by lia
theorem om32 {a' b' c' : Int} (h0' : ((0 : Int) < (a' + b'))) (h1' : (c' = b')) : ((0 : Int) < (a' + c')) := by lia
theorem om33 {a' : Nat} (h0' : (a' ≤ (1001 : Nat))) : (a' ≤ (100000 : Nat)) := by exact Nat.le_trans (by assumption) (by decide)
theorem om34 {a' b' c' : Int} (h0' : (a' ≤ (100000 : Int))) (h1' : ((0 : Int) < (b' + a'))) (h2' : (c' = a')) (h3' : (b' = (0 : Int))) : (c' ≠ (0 : Int)) := by lia
theorem om35 {a' b' : Nat} (h0' : (a' ≤ (1000 : Nat))) (h1' : (b' = a')) : (b' ≤ (100000 : Nat)) := by lia
theorem om36 {a' b' : Nat} (h0' : (a' < b')) : ((b' - (a' + (1 : Nat))) < (b' - a')) := by omega
theorem om37 {a' : Nat} (h0' : ((((((a' : Nat) : Int) - (0 : Int)) - (1 : Int)) / (-(-(1 : Int)))) = (((a' : Nat) : Int) - (1 : Int)))) : (((((((a' : Nat) : Int) - (0 : Int)) - (1 : Int)) / (-(-(1 : Int)))) + (1 : Int)) = ((a' : Nat) : Int)) := by lia
theorem om38 {a' : Nat} (h0' : (¬(((a' : Nat) : Int) > (0 : Int)))) : ((0 : Int) = ((a' : Nat) : Int)) := by lia
theorem om43 {a' : Nat} (h0' : ((1 : Nat) ≤ a')) (h1' : (a' ≤ (0 : Nat))) : False := by lia
theorem om44 {a' b' : Nat} (h0' : (a' < (b' + (1 : Nat)))) : (a' ≤ b') := by lia
theorem om45 {a' b' : Nat} (h0' : (a' ≤ (b' + (1 : Nat)))) (h1' : (a' ≥ (b' + (1 : Nat)))) : (a' = (b' + (1 : Nat))) := by lia
theorem om46 {a' : Nat} (h0' : ((0 : Nat) < a')) : (((0 : Int) ≤ ((-(1 : Int)) + ((a' : Nat) : Int))) ∧ (((-(1 : Int)) + ((a' : Nat) : Int)) < ((a' : Nat) : Int))) := by lia
theorem om47 {a' : Nat} (h0' : ((0 : Nat) < a')) : ((Int.toNat ((-(1 : Int)) + ((a' : Nat) : Int))) = (a' - (1 : Nat))) := by lia
theorem om48 {a' b' c' : Nat} (h0' : (a' ≤ b')) (h1' : (c' < (min a' b'))) : (c' < a') := by lia
theorem om49 {a' b' c' d' : Nat} (h0' : (a' ≤ b')) (h1' : (c' < a')) (h2' : (d' = b')) : (c' < ((min a' d') - (0 : Nat))) := by lia
theorem om50 {a' b' c' : Nat} (h0' : ((a' + b') < c')) : (b' < ((min c' c') - a')) := by lia
theorem om51 {a' b' : Nat} (h0' : (a' ≤ (900 : Nat))) (h1' : (b' = a')) : (b' ≤ (100000 : Nat)) := by lia
theorem om52 {a' : Int} (h0' : (a' ≤ (100000 : Int))) : (a' ≤ (1000000 : Int)) := by lia
theorem om53 {a' b' c' : Int} (h0' : ((a' + b') ≤ c')) : (¬(c' < (a' + b'))) := by lia
theorem om54 {a' b' c' : Int} (h0' : (¬((a' + b') ≤ c'))) : (c' < (a' + b')) := by lia
theorem om55 {a' : Nat} : (((((a' + (1 : Nat)) : Nat) : Int) - (1 : Int)) = ((a' : Nat) : Int)) := by lia
theorem om56 {a' b' c' d' : Nat} (h0' : (a' ≤ (900 : Nat))) (h1' : (b' = a')) (h2' : (c' = (a' + (1 : Nat)))) (h3' : (d' = (a' + (1 : Nat)))) : (a' ≤ (100000 : Nat)) := by exact Nat.le_trans (by assumption) (by decide)
theorem om57 {a' b' c' d' e' : Nat} (h0' : (a' ≤ (900 : Nat))) (h1' : (b' = a')) (h2' : (c' = (a' + (1 : Nat)))) (h3' : (d' = (a' + (1 : Nat)))) (h4' : ((a' - (0 : Nat)) < e')) (h5' : (e' ≤ a')) : False := by lia
theorem om58 {a' b' c' d' e' : Nat} (h0' : (a' = b')) (h1' : (c' = (b' + (1 : Nat)))) (h2' : (d' = (b' + (1 : Nat)))) (h3' : (e' < b')) : (((b' - e') + e') = b') := by lia
theorem om59 {a' b' c' d' e' f' : Nat} (h0' : (a' = b')) (h1' : (c' = (b' + (1 : Nat)))) (h2' : (d' = (b' + (1 : Nat)))) (h3' : ((e' + f') = b')) : ((((b' : Nat) : Int) + (((f' : Nat) : Int) * (-(1 : Int)))) = ((e' : Nat) : Int)) := by lia
theorem om60 {a' b' c' d' e' f' : Nat} (h0' : (a' = b')) (h1' : (c' = (b' + (1 : Nat)))) (h2' : (d' = (b' + (1 : Nat)))) (h3' : ((e' + f') = b')) : (e' < d') := by lia
theorem om62 {a' : Nat} (h0' : (a' ≠ (0 : Nat))) : (((a' : Nat) : Int) ≠ (0 : Int)) := by lia
theorem om63 {a' b' c' d' e' f' : Nat} (h0' : (a' = b')) (h1' : (c' = (b' + (1 : Nat)))) (h2' : (d' = (b' + (1 : Nat)))) (h3' : (e' < b')) (h4' : ((f' + e') = b')) : ((1 : Nat) ≤ f') := by lia
theorem om64 {a' b' c' d' e' f' : Nat} (h0' : (a' = b')) (h1' : (c' = (b' + (1 : Nat)))) (h2' : (d' = (b' + (1 : Nat)))) (h3' : ((e' + f') = b')) : (e' ≤ b') := by lia
theorem om65 {a' b' c' d' e' f' g' : Nat} (h0' : (a' = b')) (h1' : (c' = (b' + (1 : Nat)))) (h2' : (d' = (b' + (1 : Nat)))) (h3' : (e' < b')) (h4' : ((f' + e') = b')) (h5' : (f' < g')) : ((b' - e') < g') := by lia
theorem om66 {a' b' c' d' e' f' : Nat} (h0' : (a' = b')) (h1' : (c' = (b' + (1 : Nat)))) (h2' : (d' = (b' + (1 : Nat)))) (h3' : (e' < b')) (h4' : ((f' + e') = b')) : ((f' - (1 : Nat)) < d') := by lia
theorem om67 {a' b' c' d' e' f' : Nat} (h0' : (a' = b')) (h1' : (c' = (b' + (1 : Nat)))) (h2' : (d' = (b' + (1 : Nat)))) (h3' : (e' < b')) (h4' : ((f' + e') = b')) : ((((f' : Nat) : Int) - (1 : Int)) = (((f' - (1 : Nat)) : Nat) : Int)) := by lia
theorem om68 {a' b' c' d' e' f' g' : Nat} (h0' : (a' = b')) (h1' : (c' = (b' + (1 : Nat)))) (h2' : (d' = (b' + (1 : Nat)))) (h3' : (e' < b')) (h4' : ((f' + e') = b')) (h5' : ((b' - (e' + (1 : Nat))) < g')) (h6' : ((b' - e') ≥ g')) : (g' = f') := by lia
theorem om70 {a' b' c' d' e' : Nat} (h0' : (a' ≤ (900 : Nat))) (h1' : (b' = a')) (h2' : (c' = (a' + (1 : Nat)))) (h3' : (d' = (a' + (1 : Nat)))) (h4' : ((0 : Nat) < e')) (h5' : (e' ≤ a')) : ((a' - a') < e') := by lia
theorem om71 {a' b' : Nat} (h0' : (a' < (b' + (1 : Nat)))) (h1' : (a' ≥ b')) : (a' = b') := by lia
theorem om72 {a' b' c' d' : Nat} (h0' : (a' ≤ (900 : Nat))) (h1' : (b' = a')) (h2' : (c' = (a' + (1 : Nat)))) (h3' : (d' = (a' + (1 : Nat)))) : (d' ≤ (1000 : Nat)) := by lia
theorem om73 {a' b' c' : Int} (h0' : (a' ≤ (100000 : Int))) (h1' : (a' = (b' + c'))) (h2' : ((0 : Int) ≤ c')) : (b' ≤ (100000 : Int)) := by lia
theorem om74 {a' b' c' d' : Nat} (h0' : (a' ≤ (900 : Nat))) (h1' : (b' = a')) (h2' : (c' = (a' + (1 : Nat)))) (h3' : (d' = (a' + (1 : Nat)))) : (a' ≤ (1000 : Nat)) := by exact Nat.le_trans (by assumption) (by decide)
theorem om75 {a' : Nat} (h0' : (a' ≤ (900 : Nat))) : (a' ≤ (1000 : Nat)) := by exact Nat.le_trans (by assumption) (by decide)
theorem om76 {a' b' : Int} (h0' : (((0 : Int) ≤ a') ∧ (a' ≤ (1000 : Int)))) (h1' : (b' ≤ (100000 : Int))) (h2' : ((0 : Int) < a')) (h3' : ((0 : Int) ≤ b')) : ((0 : Int) < (a' + b')) := by lia
theorem om77 {a' : Int} (h0' : (((0 : Int) ≤ a') ∧ (a' ≤ (1000 : Int)))) (h1' : ((0 : Int) < a')) : (a' ≠ (0 : Int)) := by lia
theorem om78 {d' e' : Nat} {a' b' c' : Int} (h0' : (a' ≤ (100000 : Int))) (h1' : (b' ≤ (100000 : Int))) (h2' : ((0 : Int) ≤ b')) (h3' : (a' = (b' + c'))) (h4' : (c' = (((d' : Nat) : Int) + ((e' : Nat) : Int)))) : (((d' : Nat) : Int) ≤ (100000 : Int)) := by lia
theorem om80 {a' b' c' d' : Nat} (h0' : (a' ≤ (900 : Nat))) (h1' : (b' = a')) (h2' : (c' = (a' + (1 : Nat)))) (h3' : (d' = (a' + (1 : Nat)))) : (c' ≤ (100000 : Nat)) := by lia
theorem om81 {a' b' c' d' e' : Nat} (h0' : (a' = b')) (h1' : (c' = (b' + (1 : Nat)))) (h2' : (d' = (b' + (1 : Nat)))) (h3' : (e' ≤ b')) : (e' ≤ c') := by lia
theorem om82 {a' b' c' d' e' : Nat} (h0' : (a' = b')) (h1' : (c' = (b' + (1 : Nat)))) (h2' : (d' = (b' + (1 : Nat)))) (h3' : (e' ≤ b')) : (e' ≤ d') := by lia
theorem om83 {a' b' : Int} (h0' : (a' ≤ (100000 : Int))) (h1' : (b' ≤ a')) : (b' ≤ (1000000 : Int)) := by lia
theorem om84 {a' b' c' d' e' : Nat} (h0' : (a' ≤ (900 : Nat))) (h1' : (b' = a')) (h2' : (c' = (a' + (1 : Nat)))) (h3' : (d' = (a' + (1 : Nat)))) (h4' : (e' ≤ a')) : ((min e' (a' + (1 : Nat))) ≤ (100000 : Nat)) := by lia
theorem om85 {a' b' c' d' e' : Nat} (h0' : (a' ≤ (900 : Nat))) (h1' : (b' = a')) (h2' : (c' = (a' + (1 : Nat)))) (h3' : (d' = (a' + (1 : Nat)))) (h4' : (e' ≤ a')) : (((min e' (b' + (1 : Nat))) + ((b' + (1 : Nat)) - e')) ≤ (100000 : Nat)) := by lia
theorem om86 {a' : Nat} (h0' : (a' ≤ (1000 : Nat))) : (a' ≤ ((16777216 : Nat) + (1 : Nat))) := by exact Nat.le_trans (by assumption) (by decide)
theorem om88 {a' b' : Nat} : (((a' + (1 : Nat)) + b') = (a' + (b' + (1 : Nat)))) := by lia
theorem om94 {a' : Nat} : (((-(1 : Int)) + (((a' + (1 : Nat)) : Nat) : Int)) = ((a' : Nat) : Int)) := by lia
theorem om95 {a' : Nat} : (((a' : Nat) : Int) < (((a' + (1 : Nat)) : Nat) : Int)) := by lia
theorem om96 {a' : Nat} (h0' : (a' ≤ (100000 : Nat))) : ((((a' + (1 : Nat)) : Nat) : Int) ≠ (0 : Int)) := by lia
theorem om97 {a' b' : Nat} {c' d' : Int} (h0' : ((a' + b') ≤ (100000 : Nat))) (h1' : (c' = ((a' : Nat) : Int))) : ((max (0 : Int) (min d' ((a' : Nat) : Int))) ≤ ((a' : Nat) : Int)) := by lia
theorem om98 {b' : Nat} {a' : Int} (h0' : (a' ≤ ((b' : Nat) : Int))) : ((Int.toNat (max a' ((b' : Nat) : Int))) = b') := by lia
theorem om99 {a' b' : Nat} {c' : Int} (h0' : ((a' + b') ≤ (100000 : Nat))) (h1' : (c' ≤ ((a' : Nat) : Int))) (h2' : ((Int.toNat (max c' ((a' : Nat) : Int))) = a')) : ((Int.toNat c') ≤ a') := by lia
theorem om100 {a' b' d' : Nat} {c' : Int} (h0' : ((a' + b') ≤ (100000 : Nat))) (h1' : ((Int.toNat (max c' ((a' : Nat) : Int))) = a')) (h2' : ((Int.toNat c') ≤ a')) (h3' : ((Int.toNat c') = d')) : ((((min (Int.toNat c') a') - (0 : Nat)) + b') ≤ (a' + b')) := by lia
theorem om101 {b' : Nat} {a' : Int} : (((0 : Int) ≤ (max (0 : Int) (min a' ((b' : Nat) : Int)))) ∧ ((max (0 : Int) (min a' ((b' : Nat) : Int))) ≤ ((b' : Nat) : Int))) := by omega
theorem om102 {a' b' : Nat} (h0' : (((0 : Int) ≤ ((a' : Nat) : Int)) ∧ (((a' : Nat) : Int) ≤ ((b' : Nat) : Int)))) : (a' ≤ b') := by lia
theorem om105 {a' b' c' : Nat} (h0' : (((0 : Int) ≤ ((a' : Nat) : Int)) ∧ (((a' : Nat) : Int) ≤ ((b' : Nat) : Int)))) : ((Int.toNat (((a' : Nat) : Int) + ((1 : Int) * ((c' : Nat) : Int)))) = (a' + c')) := by lia
theorem om106 {a' b' c' : Nat} (h0' : (¬((a' + b') < c'))) : (c' < (a' + (b' + (1 : Nat)))) := by exact Nat.not_le.mp (by assumption)
theorem om107 {a' b' : Nat} (h0' : (((0 : Int) ≤ ((a' : Nat) : Int)) ∧ (((a' : Nat) : Int) ≤ ((b' : Nat) : Int)))) (h1' : (b' < (a' + (b' - a')))) : False := by lia
theorem om108 {a' b' : Int} (h0' : ((0 : Int) ≤ a')) (h1' : (a' < b')) : ((-b') ≤ a') := by lia
theorem om123 {a' b' c' : Int} (h0' : (a' = (b' + c'))) (h1' : ((0 : Int) ≤ b')) : (c' ≤ a') := by lia
theorem om124 {a' : Nat} : (a' ≤ (a' + (1 : Nat))) := by lia
theorem om125 {a' b' c' : Int} (h0' : (a' = (b' + c'))) : (a' ≤ ((b' + c') + (1 : Int))) := by lia
theorem om126 {a' b' c' d' : Int} (h0' : (a' = (b' + c'))) (h1' : (d' ≤ a')) : (d' ≤ ((b' + c') + (1 : Int))) := by lia
theorem om127 {a' b' : Nat} : (((1 : Int) + ((a' : Nat) : Int)) ≤ ((((b' : Nat) : Int) + ((a' : Nat) : Int)) + (1 : Int))) := by lia
theorem om128 {a' b' : Nat} : (((((a' : Nat) : Int) + ((b' : Nat) : Int)) + (0 : Int)) ≤ ((((a' : Nat) : Int) + ((b' : Nat) : Int)) + (1 : Int))) := by lia
theorem om129 {a' b' c' : Int} (h0' : ((0 : Int) ≤ a')) (h1' : (b' ≤ (c' + (1 : Int)))) : (b' ≤ ((a' + c') + (1 : Int))) := by lia
theorem om201 {a' b' : Nat} (h0' : (((a' : Nat) : Int) = ((b' : Nat) : Int))) : (b' = a') := by lia
theorem om202 {a' b' : Nat} (h0' : ((221 : Nat) ≤ a')) (h1' : ((a' + b') = (198 : Nat))) : False := by lia
theorem om203 {a' b' : Nat} (h0' : ((a' + (2 : Nat)) < b')) : (a' < b') := by lia
theorem om204 {a' : Nat} (h0' : ((221 : Nat) ≤ a')) (h1' : ((a' + (2 : Nat)) = (198 : Nat))) : False := by lia
theorem om205 {a' : Nat} (h0' : ((221 : Nat) ≤ a')) (h1' : ((a' + (1 : Nat)) = (198 : Nat))) : False := by lia
theorem om206 {a' : Nat} (h0' : ((221 : Nat) ≤ a')) : ((221 : Nat) ≤ (a' + (2 : Nat))) := by lia
theorem om207 {a' : Nat} : (a' ≤ (a' + (2 : Nat))) := by lia
theorem om208 {a' : Nat} (h0' : ((a' + (3 : Nat)) < (3 : Nat))) : (¬((a' + (3 : Nat)) < (3 : Nat))) := by lia
theorem om209 {a' b' : Nat} (h0' : ((a' + (1 : Nat)) < (b' + (1 : Nat)))) : (a' < b') := by lia
theorem om210 {a' b' : Nat} : ((a' + (b' + (1 : Nat))) = ((a' + (1 : Nat)) + b')) := by lia
theorem om211 {a' b' : Nat} (h0' : (((a' : Nat) : Int) < ((b' : Nat) : Int))) (h1' : ((((((b' : Nat) : Int) - ((a' : Nat) : Int)) - (1 : Int)) / (1 : Int)) = ((((b' : Nat) : Int) - ((a' : Nat) : Int)) - (1 : Int)))) : (((((((b' : Nat) : Int) - ((a' : Nat) : Int)) - (1 : Int)) / (1 : Int)) + (1 : Int)) = (((b' - a') : Nat) : Int)) := by lia
theorem om212 {a' b' : Nat} (h0' : (a' ≤ b')) (h1' : (¬(((a' : Nat) : Int) < ((b' : Nat) : Int)))) : ((0 : Int) = (((b' - a') : Nat) : Int)) := by lia
theorem om213 {a' b' : Nat} (h0' : (a' ≤ b')) (h1' : (((b' : Nat) : Int) < ((a' : Nat) : Int))) : (((((((a' : Nat) : Int) - ((b' : Nat) : Int)) - (1 : Int)) / (1 : Int)) + (1 : Int)) = (0 : Int)) := by omega
theorem om216 {a' : Nat} : (¬(((a' : Nat) : Int) < (0 : Int))) := by lia
theorem om217 {a' b' : Nat} (h0' : ((221 : Nat) ≤ a')) (h1' : (a' < b')) : (b' ≠ (205 : Nat)) := by lia
theorem om221 {a' b' c' d' e' : Nat} (h0' : ((a' + (2 : Nat)) < b')) (h1' : (b' < c')) (h2' : (d' ≤ e')) (h3' : (d' > c')) : (a' < e') := by lia
theorem om222 {a' b' c' d' : Nat} (h0' : (a' < b')) (h1' : (c' ≤ d')) (h2' : (c' > b')) : (a' < d') := by lia
theorem om223 {a' b' c' d' e' : Nat} (h0' : ((a' + (2 : Nat)) < b')) (h1' : (b' < c')) (h2' : (d' ≤ e')) (h3' : (d' > c')) : ((a' + (2 : Nat)) < e') := by lia
theorem om224 {a' b' c' d' e' : Nat} (h0' : ((a' + (2 : Nat)) < b')) (h1' : (b' < c')) (h2' : (d' ≤ e')) (h3' : (d' > c')) : ((a' + (1 : Nat)) < e') := by lia
theorem om225 {a' b' c' d' e' : Nat} (h0' : ((221 : Nat) ≤ a')) (h1' : ((a' + (2 : Nat)) < b')) (h2' : (b' < c')) (h3' : (d' ≤ e')) (h4' : (d' > c')) : ((221 : Nat) ≤ e') := by lia
theorem om226 {a' b' c' d' e' : Nat} (h0' : ((a' + (2 : Nat)) < b')) (h1' : (b' < c')) (h2' : (d' ≤ e')) (h3' : (d' > c')) : (a' ≤ e') := by lia
theorem om227 {a' b' c' : Nat} (h0' : ((a' + (2 : Nat)) < b')) (h1' : (b' < c')) : (a' ≤ c') := by lia
theorem om228 {a' b' : Nat} (h0' : ((a' + (2 : Nat)) < b')) : (a' ≤ b') := by lia
theorem om229 {a' : Nat} (h0' : (a' ≤ (2000 : Nat))) (h1' : ((1 : Int) > ((a' : Nat) : Int))) : ((max a' (1 : Nat)) = (1 : Nat)) := by lia
theorem om230 {a' : Nat} (h0' : (a' ≤ (2000 : Nat))) (h1' : (¬((1 : Int) > ((a' : Nat) : Int)))) : ((max a' (1 : Nat)) = a') := by lia
theorem om231 {a' : Nat} (h0' : (a' ≤ (2000 : Nat))) : ((max a' (1 : Nat)) ≤ (100000 : Nat)) := by lia
theorem om232 {a' b' c' d' e' : Nat} (h0' : (a' < (b' - (max c' (1 : Nat))))) (h1' : (d' = ((max c' (1 : Nat)) + a'))) (h2' : (e' = b')) : (d' < e') := by lia
theorem om233 {a' b' c' : Nat} (h0' : (a' ≤ (1000 : Nat))) (h1' : (b' = a')) (h2' : (c' < b')) : ((c' - (1 : Nat)) < b') := by omega
theorem om234 {a' b' c' : Nat} (h0' : (a' = ((max b' (1 : Nat)) + c'))) : (((((max b' (1 : Nat)) : Nat) : Int) + (((c' : Nat) : Int) * (1 : Int))) = ((a' : Nat) : Int)) := by lia
theorem om235 {a' b' c' : Nat} (h0' : (a' ≤ (2000 : Nat))) (h1' : (b' = ((max a' (1 : Nat)) + c'))) : ((((b' : Nat) : Int) - (1 : Int)) = (((b' - (1 : Nat)) : Nat) : Int)) := by lia
theorem om236 {a' b' c' d' : Nat} (h0' : (a' = ((max b' (1 : Nat)) + c'))) (h1' : (d' < (c' + (1 : Nat)))) (h2' : (d' ≥ c')) : (((max b' (1 : Nat)) + d') = a') := by lia
theorem om237 {a' b' : Nat} : (a' < (a' + (b' + (1 : Nat)))) := by lia
theorem om238 {a' b' c' : Nat} (h0' : (a' < ((b' + (1 : Nat)) + c'))) : (a' < (b' + (c' + (1 : Nat)))) := by lia
theorem om239 {a' b' : Nat} (h0' : (a' ≤ b')) (h1' : (a' ≥ b')) : (b' = a') := by lia
theorem om240 {a' b' c' : Nat} (h0' : (a' < (b' + (c' + (1 : Nat))))) : (a' < ((b' + (1 : Nat)) + c')) := by lia
theorem om241 {a' b' : Nat} : (a' ≤ (a' + b')) := by lia
theorem om242 {a' b' c' : Nat} (h0' : (a' ≤ b')) (h1' : (c' < (a' + (b' - a')))) : (c' < b') := by lia
theorem om243 {a' b' : Nat} (h0' : (a' ≤ b')) : ((a' + (b' - a')) = b') := by lia
theorem om244 {a' b' c' : Nat} (h0' : (a' ≤ (1000 : Nat))) (h1' : (b' = a')) (h2' : (((1 : Nat) ≤ c') ∧ (c' < b'))) : ((max (0 : Nat) (1 : Nat)) ≤ c') := by lia
theorem om245 {a' b' : Nat} (h0' : (((1 : Nat) ≤ a') ∧ (a' < b'))) : (a' < ((max (0 : Nat) (1 : Nat)) + (b' - (max (0 : Nat) (1 : Nat))))) := by omega
theorem om246 {a' b' c' : Nat} (h0' : ((max (0 : Nat) (1 : Nat)) ≤ a')) (h1' : (a' < ((max (0 : Nat) (1 : Nat)) + (b' - (max (0 : Nat) (1 : Nat)))))) (h2' : (((1 : Nat) ≤ c') ∧ (c' < b'))) : ((max (0 : Nat) (1 : Nat)) ≤ c') := by lia
theorem om248 {a' : Nat} : (((a' : Nat) : Int) = (((a' : Nat) : Int) + (0 : Int))) := by lia
theorem om249 {a' : Nat} : ((((a' + (1 : Nat)) : Nat) : Int) = ((((a' : Nat) : Int) + (0 : Int)) + (1 : Int))) := by lia
theorem om250 {a' : Nat} : (((a' : Nat) : Int) ≠ (((a' : Nat) : Int) + (1 : Int))) := by lia
theorem om251 {a' b' c' : Nat} (h0' : (a' ≤ (1000 : Nat))) (h1' : (b' = a')) (h2' : (((1 : Nat) ≤ c') ∧ (c' < b'))) : ((c' + (1 : Nat)) ≤ (2000 : Nat)) := by lia
theorem om252 {a' b' c' : Nat} {d' : Int} (h0' : (a' ≤ (1000 : Nat))) (h1' : (b' = a')) (h2' : (((1 : Nat) ≤ c') ∧ (c' < b'))) (h3' : (((c' : Nat) : Int) < d')) : (c' < (Int.toNat d')) := by lia
theorem om253 {a' b' c' : Nat} (h0' : (((1 : Nat) ≤ a') ∧ (a' < b'))) (h1' : (a' < c')) : ((max (a' + (1 : Nat)) (1 : Nat)) ≤ c') := by lia
theorem om254 {a' b' c' : Nat} (h0' : (((1 : Nat) ≤ a') ∧ (a' < b'))) : (a' < ((max (c' + (1 : Nat)) (1 : Nat)) + (b' - (max (c' + (1 : Nat)) (1 : Nat))))) := by omega
theorem om255 {a' b' c' d' : Nat} (h0' : (a' = b')) (h1' : (((1 : Nat) ≤ c') ∧ (c' < a'))) (h2' : ((max (c' + (1 : Nat)) (1 : Nat)) ≤ d')) (h3' : (((1 : Nat) ≤ d') ∧ (d' < a'))) : ((b' - d') < (b' - c')) := by lia
theorem om256 {a' b' c' : Nat} (h0' : (((1 : Nat) ≤ a') ∧ (a' < b'))) (h1' : ((max (a' + (1 : Nat)) (1 : Nat)) ≤ c')) (h2' : (c' < ((max (a' + (1 : Nat)) (1 : Nat)) + (b' - (max (a' + (1 : Nat)) (1 : Nat)))))) : (a' < c') := by lia
theorem om257 {a' b' c' d' : Nat} (h0' : (((1 : Nat) ≤ a') ∧ (a' < b'))) (h1' : ((max (a' + (1 : Nat)) (1 : Nat)) ≤ c')) (h2' : (c' < ((max (a' + (1 : Nat)) (1 : Nat)) + (b' - (max (a' + (1 : Nat)) (1 : Nat)))))) (h3' : (a' < d')) : ((max (a' + (1 : Nat)) (1 : Nat)) ≤ d') := by lia
theorem om258 {b' c' : Nat} {a' : Int} (h0' : (((Int.toNat a') ≤ b') ∧ (b' < c'))) (h1' : (((b' : Nat) : Int) < a')) : False := by lia
theorem om259 {a' b' d' : Nat} {c' : Int} (h0' : (((1 : Nat) ≤ a') ∧ (a' < b'))) (h1' : (¬(((a' : Nat) : Int) < c'))) (h2' : ((a' ≤ d') ∧ (d' < (Int.toNat c')))) : False := by lia
theorem om261 {a' b' c' : Nat} (h0' : (a' ≤ b')) (h1' : (b' = c')) : (((a' : Nat) : Int) ≤ ((c' : Nat) : Int)) := by lia
theorem om262 {a' b' c' : Nat} (h0' : (a' ≤ b')) (h1' : (b' = c')) : ((b' - (Int.toNat ((a' : Nat) : Int))) ≤ (Int.toNat (((c' : Nat) : Int) - ((a' : Nat) : Int)))) := by omega
theorem om266 {a' : Nat} (h0' : ((5 : Nat) ≤ a')) : ((5 : Int) ≤ ((a' : Nat) : Int)) := by lia
theorem om267 {a' b' : Nat} (h0' : (¬((5 : Nat) ≤ a'))) (h1' : (b' = a')) : (¬(((a' : Nat) : Int) < (0 : Int))) := by lia
theorem om268 {a' b' : Nat} (h0' : (¬((5 : Nat) ≤ a'))) (h1' : (b' = a')) : ((min (5 : Int) ((a' : Nat) : Int)) = ((a' : Nat) : Int)) := by lia
theorem om269 {a' b' : Nat} (h0' : (a' = b')) (h1' : ((min (5 : Int) ((b' : Nat) : Int)) = ((b' : Nat) : Int))) : ((min ((b' : Nat) : Int) ((b' : Nat) : Int)) = ((b' : Nat) : Int)) := by lia
theorem om270 {a' b' : Nat} (h0' : (¬((5 : Nat) ≤ a'))) (h1' : (b' = a')) : (a' ≤ (5 : Nat)) := by lia
theorem om271 {a' : Nat} : (((a' : Nat) : Int) ≤ ((a' : Nat) : Int)) := by lia
theorem om272 {a' : Nat} (h0' : (((((((((a' + (1 : Nat)) + (1 : Nat)) + (1 : Nat)) + (1 : Nat)) + (1 : Nat)) + (1 : Nat)) + (1 : Nat)) + (1 : Nat)) < (8 : Nat))) : False := by lia
theorem om273 {a' : Nat} (h0' : ((221 : Nat) ≤ a')) (h1' : ((198 : Nat) = (a' + (1 : Nat)))) : False := by lia
theorem om274 {a' : Nat} (h0' : ((221 : Nat) ≤ a')) (h1' : ((205 : Nat) = (a' + (1 : Nat)))) : False := by lia
theorem om275 {a' : Nat} (h0' : (a' ≤ (63 : Nat))) : (a' ≤ (1000 : Nat)) := by exact Nat.le_trans (by assumption) (by decide)
theorem om276 {a' : Nat} (h0' : (a' ≤ (63 : Nat))) : (((min (5 : Nat) a') + ((((((((((((((0 : Nat) + (1 : Nat)) + (1 : Nat)) + (1 : Nat)) + (1 : Nat)) + (1 : Nat)) + (1 : Nat)) + (1 : Nat)) + (1 : Nat)) + (1 : Nat)) + (1 : Nat)) + (1 : Nat)) + (1 : Nat)) + (1 : Nat))) ≤ (18 : Nat)) := by lia
theorem om277 {a' b' : Nat} (h0' : (a' = b')) (h1' : (b' ≤ (18 : Nat))) : (a' ≤ (1000 : Nat)) := by lia
theorem om278 {a' : Int} (h0' : (((0 : Int) ≤ a') ∧ (a' < (8 : Int)))) : ((Int.toNat a') < (8 : Nat)) := by lia
theorem om280 {a' b' c' : Nat} (h0' : (a' = b')) (h1' : (a' ≤ c')) : (b' ≤ c') := by lia
theorem om289 {a' : Int} (h0' : ((0 : Int) ≤ a')) (h1' : (a' < (4 : Int))) : (a' = (((Int.toNat a') : Nat) : Int)) := by lia
theorem om290 {a' : Int} (h0' : ((0 : Int) ≤ a')) (h1' : (a' < (4 : Int))) : ((Int.toNat a') ≤ (3 : Nat)) := by lia
theorem om296 {a' : Int} (h0' : ((0 : Int) ≤ a')) (h1' : (a' < (2 : Int))) : ((a' = (0 : Int)) ∨ (a' = (1 : Int))) := by lia
theorem om300 {a' b' c' : Nat} (h0' : (a' ≤ (63 : Nat))) (h1' : (b' ≤ c')) (h2' : (c' = a')) : ((b' + (13 : Nat)) ≤ (1000 : Nat)) := by lia
theorem om301 {a' b' c' d' : Nat} (h0' : (a' = (b' + c'))) : ((d' + a') ≤ (((d' + b') + c') + (1 : Nat))) := by lia
theorem om302 {a' b' c' d' e' : Nat} (h0' : ((a' + b') = (c' + d'))) : (((e' + a') + b') ≤ (((e' + c') + d') + (1 : Nat))) := by lia
theorem om303 {a' b' c' : Nat} : (((a' + b') + (c' + (1 : Nat))) ≤ (((a' + b') + c') + (1 : Nat))) := by exact Nat.lt_succ_self _
theorem om304 {a' b' c' : Nat} (h0' : (a' ≤ (b' - (1 : Nat)))) (h1' : (b' = (c' + (1 : Nat)))) : (a' ≤ c') := by lia
theorem om305 {a' b' c' d' e' f' g' h' i' j' k' : Nat} (h0' : ((a' + b') ≤ (((c' + d') + e') + (1 : Nat)))) (h1' : ((f' + g') ≤ (((a' + b') + h') + i'))) (h2' : (j' = (e' + h'))) (h3' : (k' = (i' + (1 : Nat)))) : ((f' + g') ≤ (((c' + d') + j') + k')) := by lia
theorem om306 {a' b' c' d' e' : Nat} (h0' : (a' ≤ (b' + (1 : Nat)))) (h1' : (c' ≤ (a' + d'))) (h2' : (e' = (d' + (1 : Nat)))) : (c' ≤ (b' + e')) := by lia
theorem om314 {a' b' c' d' e' : Nat} (h0' : (a' < b')) (h1' : ((1 : Nat) ≤ c')) : (d' < (d' + (e' + c'))) := by lia
theorem om315 {a' b' : Nat} (h0' : (a' ≤ b')) (h1' : (a' ≥ b')) : (a' = b') := by lia
theorem om316 {a' b' c' : Nat} (h0' : (((1 : Nat) ≤ a') ∧ (a' < b'))) (h1' : (a' < c')) : ((a' - (1 : Nat)) < c') := by omega
theorem om317 {a' b' : Nat} (h0' : (a' = b')) : (b' ≤ a') := by lia
theorem om318 {a' b' c' : Nat} (h0' : (((1 : Nat) ≤ a') ∧ (a' < b'))) (h1' : (c' < a')) : (c' ≤ (a' - (1 : Nat))) := by omega
theorem om319 {a' b' : Nat} (h0' : (a' < b')) : (((b' - a') - (1 : Nat)) = ((b' - (1 : Nat)) - a')) := by lia
theorem om320 {a' b' c' : Nat} (h0' : (a' < b')) (h1' : ((b' - a') = c')) : (b' = (a' + c')) := by lia
theorem om321 {a' b' : Nat} (h0' : ((1 : Nat) ≤ a')) (h1' : (a' < b')) : ((a' - (1 : Nat)) < b') := by omega
theorem om322 {a' : Nat} (h0' : ((1 : Nat) ≤ a')) : (((a' - (1 : Nat)) + (1 : Nat)) = a') := by lia
theorem om323 {a' b' : Nat} (h0' : ((1 : Nat) ≤ a')) (h1' : (a' < b')) : (((min (a' - (1 : Nat)) b') + (1 : Nat)) = a') := by lia
theorem om324 {a' b' c' : Nat} : ((a' + (b' + c')) = ((a' + b') + c')) := by lia
theorem om325 {a' b' c' : Nat} (h0' : ((1 : Nat) ≤ a')) : ((b' + c') ≤ ((b' + c') + a')) := by lia
theorem om326 {a' b' c' : Nat} (h0' : ((1 : Nat) ≤ a')) : (a' ≤ (((b' + c') + a') - (b' + c'))) := by lia
theorem om327 {a' b' c' : Nat} : (((((a' + b') + c') - (a' + b')) - c') = (0 : Nat)) := by lia
theorem om328 {a' b' c' d' : Nat} (h0' : ((1 : Nat) ≤ a')) : (((((b' + c') + d') - (b' + c')) - d') < a') := by lia
theorem om329 {a' b' c' d' : Nat} (h0' : (a' = ((b' + c') + d'))) (h1' : ((1 : Nat) ≤ d')) : ((b' + c') ≤ (((b' + c') + d') - (1 : Nat))) := by lia
theorem om330 {a' b' c' : Nat} (h0' : ((1 : Nat) ≤ a')) : (((((b' + c') + a') - (1 : Nat)) - (b' + c')) < a') := by omega
theorem om331 {a' b' c' : Nat} (h0' : ((1 : Nat) ≤ a')) : (((((b' + c') + a') - (1 : Nat)) - (b' + c')) = (a' - (1 : Nat))) := by lia
theorem om335 {a' b' : Nat} (h0' : (a' ≤ (b' + (1 : Nat)))) (h1' : (b' < a')) : (a' = (b' + (1 : Nat))) := by lia
theorem om336 {a' b' : Nat} (h0' : (a' < b')) : ((a' - (1 : Nat)) < b') := by omega
theorem om337 {a' b' : Nat} (h0' : ((1 : Nat) ≤ a')) : ((b' + (a' - (1 : Nat))) = ((b' + a') - (1 : Nat))) := by lia
theorem om338 {a' : Nat} : ((a' + (1 : Nat)) = ((1 : Nat) + a')) := by lia
theorem om339 {a' b' : Nat} (h0' : (a' < b')) (h1' : (b' ≤ a')) : False := by lia
end Mine
end

section
open PySem PySem.W PySem.Calls PyProof.Rows
set_option maxRecDepth 100000
set_option maxHeartbeats 8000000
namespace Mine
noncomputable section
noncomputable abbrev tabA : List Addr := [140, 147, 198, 205]
noncomputable abbrev tabG : List Addr := [140, 147]
noncomputable def Hi (a : Addr) : Prop := (221 : Nat) ≤ a ∨ a = 198 ∨ a = 205
noncomputable def KK (w : World) : Frag := (hdz.heap_242 w.params).filter fun p => !(tabA.contains p.1)
theorem kk_low (w : World) : ((KK w).all fun p => Nat.blt p.1 221 && !(tabA.contains p.1)) = true := by kernel_rfl
theorem kk_lt {w : World} {a : Addr} {o : Obj} (h : (KK w).lookup a = some o) : a < (221 : Nat) ∧ a ∉ tabA := by
  have := List.all_eq_true.mp (kk_low w) (a, o) (mem_of_lookupK h)
  rw [Bool.and_eq_true] at this
  refine ⟨Nat.le_of_ble_eq_true this.1, ?_⟩
  have h2 := this.2
  simpa using h2
theorem lookup_filter {K : Frag} {f : Addr → Bool} {a : Addr} {o : Obj} (h : K.lookup a = some o) (hf : f a = true) : (K.filter fun p => f p.1).lookup a = some o := by
  induction K with
  | nil => cases h
  | cons q r ih =>
    obtain ⟨b, x⟩ := q
    rw [List.lookup_cons] at h
    cases hb : a == b with
    | true =>
      rw [hb] at h; cases h
      have : a = b := eq_of_beq hb
      subst this
      rw [List.filter_cons_of_pos (by exact hf), List.lookup_cons, hb]
    | false =>
      rw [hb] at h
      cases hfb : f b with
      | true => rw [List.filter_cons_of_pos (by exact hfb), List.lookup_cons, hb]; exact ih h
      | false => rw [List.filter_cons_of_neg (by simp [hfb])]; exact ih h
theorem kk_of {w : World} {a : Addr} {o : Obj} (h : (hdz.heap_242 w.params).lookup a = some o) (ha : (!(tabA.contains a)) = true) : (KK w).lookup a = some o := lookup_filter (f := fun b => !(tabA.contains b)) h ha

structure Gd (w : World) (h : Heap) : Prop where
  X : (KK w).In h
  T : ∃ p loose mg mb, TopRead p loose mg mb h
theorem Gd.low {w : World} {h h' : Heap} (G : Gd w h) (k : ∀ b o, b < (221 : Nat) → b ∉ tabA → h.get? b = some o → h'.get? b = some o) : Gd w h' := by
  obtain ⟨X, p, loose, mg, mb, T⟩ := G
  refine ⟨fun a o e => k a o (kk_lt e).1 (kk_lt e).2 (X a o e), p, loose, mg, mb, ?_⟩
  obtain ⟨tg, tb, ⟨mc, tl1, tl2⟩, t1, t2⟩ := T
  exact ⟨tg.at' fun o e => k _ o (by decide) (by decide) e, tb.at' fun o e => k _ o (by decide) (by decide) e, ⟨mc, tl1.at' fun o e => k _ o (by decide) (by decide) e, tl2⟩, t1, t2⟩
theorem Gd.keeps {w : World} {h h' : Heap} (G : Gd w h) (k : ∀ b o, h.get? b = some o → h'.get? b = some o) : Gd w h' := G.low fun b o _ _ e => k b o e
theorem Gd.lim {w : World} {h : Heap} (G : Gd w h) : h.NoLimit := let ⟨_, _, _, _, _, T⟩ := G; T.nolimit
theorem Gd.look {w : World} {h : Heap} {a : Addr} {o : Obj} (G : Gd w h) (e : (hdz.heap_242 w.params).lookup a = some o) (ha : (!(tabA.contains a)) = true) : h.get? a = some o := G.X _ _ (kk_of e ha)

noncomputable def Tabs (h : Heap) : Prop := ∀ P ∈ tabG, ∃ ps : Array Value, h.get? P = some (tabObj ps) ∧ TriplesOk ps.toList
theorem Tabs.keeps {h h' : Heap} (t : Tabs h) (k : ∀ b o, b ∈ tabG → h.get? b = some o → h'.get? b = some o) : Tabs h' := fun P hP => let ⟨ps, e, o⟩ := t P hP; ⟨ps, k P _ hP e, o⟩

structure Ok (w : World) (s : Shared) : Prop where
  gd : Gd w s.heap
  tabs : Tabs s.heap
  bare : AllBare s.gens
structure St (ws : List Addr) (s s' : Shared) : Prop where
  keep : ∀ b o, b ∉ ws → b ∉ tabG → s.heap.get? b = some o → s'.heap.get? b = some o
  grow : s.heap.objs.size ≤ s'.heap.objs.size
  os : s'.os = s.os
theorem St.trans {ws ws' : List Addr} {s s' s'' : Shared} (a : St ws s s') (b : St ws' s' s'') : St (ws ++ ws') s s'' :=
  ⟨fun x o hx ht e => b.keep x o (fun h => hx (List.mem_append_right _ h)) ht (a.keep x o (fun h => hx (List.mem_append_left _ h)) ht e), Nat.le_trans a.grow b.grow, b.os.trans a.os⟩
theorem St.sub {ws ws' : List Addr} {s s' : Shared} (a : St ws s s') (h : ∀ x ∈ ws, x ∈ ws') : St ws' s s' := ⟨fun x o hx => a.keep x o fun q => hx (h x q), a.grow, a.os⟩

structure Bg (w : World) (g : Heap) (ws : List Addr) (s : Shared) : Prop where
  gd : Gd w g
  tab : ∀ P ∈ tabG, g.get? P = none
  own : ∀ a ∈ ws, g.get? a = none
  all : ∀ b o, b ∉ ws → b ∉ tabG → s.heap.get? b = some o → g.get? b = some o
  of_ : ∀ b o, g.get? b = some o → s.heap.get? b = some o

theorem not_tab {a : Addr} (h : (221 : Nat) ≤ a) : a ∉ tabG := by
  intro q
  simp only [tabG, List.mem_cons, List.not_mem_nil, or_false] at q
  rcases q with rfl | rfl <;> exact absurd h (by decide)
theorem Hi.not_tab {a : Addr} (h : Hi a) : a ∉ tabG := by
  rcases h with h | rfl | rfl
  · exact Mine.not_tab h
  · decide
  · decide
theorem tabG_sub {a : Addr} (h : a ∉ tabA) : a ∉ tabG := fun q => h (by
  simp only [tabG, tabA, List.mem_cons, List.not_mem_nil, or_false] at q ⊢
  rcases q with rfl | rfl
  · exact .inl rfl
  · exact .inr (.inl rfl))
theorem Hi.free {a : Addr} (h : Hi a) (h1 : a < (221 : Nat)) (h2 : a ∉ tabA) : False := by
  rcases h with h | rfl | rfl
  · exact absurd h1 (Nat.not_lt.mpr h)
  · exact h2 (by decide)
  · exact h2 (by decide)

theorem base_ofH {w : World} {s : Shared} {own : List (Addr × Obj)} (G : Gd w s.heap) (hown : ∀ p ∈ own, Hi p.1 ∧ s.heap.get? p.1 = some p.2) :
    Bg w (hideAll s.heap (own.map (·.1) ++ tabG)) (own.map (·.1)) s ∧ (221 : Nat) ≤ s.heap.objs.size := by
  have hnn : ∀ b o, b ∉ own.map (·.1) → b ∉ tabG → s.heap.get? b = some o → (hideAll s.heap (own.map (·.1) ++ tabG)).get? b = some o := fun b o h1 h2 e =>
    hideAll_get _ e fun q => (List.mem_append.mp q).elim h1 h2
  refine ⟨⟨G.low fun b o hb ht e => hnn b o (fun q => ?_) (tabG_sub ht) e, fun P hP => hideAll_none _ (List.mem_append_right _ hP), fun a ha => hideAll_none _ (List.mem_append_left _ ha), hnn, fun b o e => of_hideAll _ e⟩, ?_⟩
  · obtain ⟨r, hr, e⟩ := List.mem_map.mp q
    exact ((hown r hr).1).free (e ▸ hb) (e ▸ ht)
  · have e : ∃ o, (KK w).lookup 220 = some o := by
      have : ((KK w).lookup 220).isSome = true := by kernel_rfl
      exact Option.isSome_iff_exists.mp this
    obtain ⟨o, e⟩ := e
    exact Heap.lt_size (G.X _ _ e)
theorem base_of {w : World} {s : Shared} {own : List (Addr × Obj)} (G : Gd w s.heap) (hown : ∀ p ∈ own, (221 : Nat) ≤ p.1 ∧ s.heap.get? p.1 = some p.2) :
    Bg w (hideAll s.heap (own.map (·.1) ++ tabG)) (own.map (·.1)) s ∧ (221 : Nat) ≤ s.heap.objs.size := base_ofH G fun p hp => ⟨.inl (hown p hp).1, (hown p hp).2⟩

theorem enter {prog : Program} {w : World} {A : Around} {s : Shared} {E : Value → Shared → Prop} {Q : Value → Shared → Prop}
    {name qual : Str} {params : Arguments} {body : List Stmt} {scope : Scope} {cl : List (Str × Addr)} {dV kV doc pm cdv ct oc : Value} {an od : Option Addr} {osl : Array (Option Value)} {f : Addr} {args : List Value} {binds : List (Str × Value)}
    (own : List (Addr × Obj)) (O : Ok w s) (hroom : A.depth < recursionLimit)
    (hown : ∀ p ∈ own, Hi p.1 ∧ s.heap.get? p.1 = some p.2)
    (ho : (hdz.heap_242 w.params).lookup f = some ⟨oc, od, .func (fnX name qual params body scope cl dV kV doc pm an cdv ct), osl⟩) (hf : (!(tabA.contains f)) = true) (hcd : codeIn (KK w) cdv qual = true)
    (hbind : BindsTo s (fnX name qual params body scope cl dV kV doc pm an cdv ct) ⟨args, []⟩ binds) (hloc : ∀ y ∈ binds, scope.names.lookup y.1 = some .local)
    (hcell : ∀ x ∈ scope.names, x.2 ≠ .cell) (hco : scope.isCoroutine = false) (hgen : scope.isGenerator = false) (hk : scope.kind = .function)
    (h : ∀ g L h₁, Bg w g (own.map (·.1)) s → (221 : Nat) ≤ L → s.heap.objs.size = L → Tabs h₁ → Fr g L h₁ (fun y => binds.reverse.lookup y) → News g L h₁ own →
      wpAny (model prog w) (A.deeper (envX qual scope L f cdv cl)) (execs body (envX qual scope L f cdv cl))
        (fun fl s' => Q (match fl with | .ret v => v | _ => .none) s') (fun _ _ => False) { s with heap := h₁, toks := s.toks + binds.length }) :
    wpAny (model prog w) A (call (.ref f) args) Q E s := by
  obtain ⟨G, tp, bare⟩ := O
  refine wpAny_call (codeAny_call_def (fd := fnX name qual params body scope cl dV kV doc pm an cdv ct) (body := body) (binds := binds) hroom (G.look ho hf) rfl G.lim (codeRec_of G.X hcd) rfl hbind hcell hloc (fun h₁ hns hk₁ => ?_) hco hgen hk)
  obtain ⟨B, big⟩ := base_ofH G hown
  exact wpAny_mono (h _ _ h₁ B big rfl (tp.keeps fun b o _ e => hk₁ b o e) ⟨hns, fun b o e => hk₁ b o (B.of_ b o e), Nat.le_of_eq (hideAll_size _ _)⟩
    (fun q hq => ⟨hk₁ _ _ (hown q hq).2, Nat.ne_of_lt (Heap.lt_size (hown q hq).2), B.own _ (List.mem_map_of_mem hq)⟩)) (fun fl s' hq => hq) fun _ _ e => e.elim

section
variable {prog : Program} {w : World} {A : Around} {E : Value → Shared → Prop} {s : Shared} {K : Frag} {x C : Addr} {ox : Obj} {od : Option Obj}

theorem call_bi {id owner n : String} {b : Builtin} {self : Value} {rest : List Value} {Q : Value → Shared → Prop} (hp : plainId id = true)
    (hk : builtinKind id = some .method ∨ builtinKind id = some .slot) (hs : splitId id = some (owner, n)) (hi : Looks (model prog w) s.heap (isInstance self (.type owner)) true)
    (hb : entryFor table id = some b) (ha : argsOk id ⟨self :: rest, []⟩)
    (hc : wpAny (model prog w) A.in1 (b ⟨self :: rest, []⟩) (fun fin s' => ∃ v, fin = .done (.ret v) ∧ Q v s') E s) :
    wpAny (model prog w) A (call (.builtin id) (self :: rest)) Q E s := by
  refine wpAny_call (codeAny_call_builtin hp hb ?_)
  have key : ∀ {Q' : Unit → Shared → Prop} {E'}, Q' () s → wpAny (model prog w) A.in1 (checkBuiltinCall id ⟨self :: rest, []⟩) Q' E' s := by
    intro Q' E' q
    rcases hk with hk | hk <;>
    · simp only [checkBuiltinCall, hk, hs]
      refine wpAny_bind (hi.here ?_)
      simp only [Bool.not_true, Bool.false_eq_true, if_false]
      cases hsig : Manifest.signature? id with
      | none => exact wpAny_pure q
      | some sig =>
        simp only [argsOk, hsig] at ha
        have h2 : Bind.checkArgs id sig ⟨self :: rest, []⟩ = pure () := ha
        show wpAny _ _ (Bind.checkArgs id sig ⟨self :: rest, []⟩) _ _ s
        rw [h2]; exact wpAny_pure q
  refine key (wpAny_mono hc (fun fin s' h' => ?_) fun _ _ h' => h')
  obtain ⟨v, rfl, hv⟩ := h'; exact hv

theorem inst_is {T : String} (X : K.In s.heap) (I : InstAt s.heap x ox C od) (hs : subIn K (.ref C) (.type T) = some true) : Looks (model prog w) s.heap (isInstance (.ref x) (.type T)) true :=
  I.type.andThen (looks_subIn X hs)

end
end
end Mine
end

section
open PySem PySem.W PySem.Calls PyProof.Rows
set_option maxRecDepth 100000
set_option maxHeartbeats 8000000
namespace Mine
section
variable {prog : Program} {w : World} {A : Around} {E : Value → Shared → Prop} {s : Shared} {K : Frag} {x C : Addr} {ox : Obj} {od : Option Obj}
theorem ga_bind (self : Value) : bindSpecial (.builtin "list.__getattribute__") self = pure (.builtin "list.__getattribute__", [self]) := F.slot_list_getattribute.bind self

theorem get_l {name : Str} {v : Value} {ex : Bool} {Q : Value → Shared → Prop} (X : K.In s.heap) (I : InstAt s.heap x ox C od) (hga : findIn K (.ref C) "__getattribute__" = some (some (.builtin "list.__getattribute__")))
    (hgt : findIn K (.ref C) "__getattr__" = some none) (hsub : subIn K (.ref C) (.type "list") = some true)
    (hf : findObj K C od name = some (.value v)) (hh : handedIn v = true) (h : Q v { s with toks := s.toks + 1 }) : wpAny (model prog w) A (getAttr (.ref x) name ex) Q E s := by
  obtain ⟨hp, g, d, t, os⟩ := s
  have L0 := I.type (M := model prog w)
  have L1 := looks_findIn (M := model prog w) X hga
  have L2 := looks_findIn (M := model prog w) X hgt
  have L3 := looks_find (M := model prog w) X I hf
  unfold getAttr getAttrBy
  refine wpAny_bind (wpAny_mkText (wpAny_holding (wpAny_bind (L0.at (wpAny_bind (L1.at ?_))))))
  show wpAny _ _ (getAttrByItsOwn _ _ _ _ _ _) _ _ _
  unfold getAttrByItsOwn hookBefore
  refine wpAny_bind ?_
  show wpAny _ _ (typeLookup (.ref C) "__getattr__") _ _ _
  refine L2.at ?_
  refine wpAny_bind (wpAny_attempt (wpAny_holding ?_))
  unfold callGetattribute
  rw [if_neg (by simp [onTheHeap])]
  unfold boundAndCalled
  refine wpAny_bind (wpAny_of_eq (ga_bind _) ?_)
  show wpAny _ _ (call (.builtin "list.__getattribute__") (Value.ref x :: [Value.str name t])) _ _ _
  refine call_bi (owner := "list") (n := "__getattribute__") (by decide +kernel) (.inr (by decide +kernel)) (by decide +kernel) (inst_is (K := K) X (s := ⟨hp, g, d, t + 1, os⟩) I hsub) F.entry_list_ga (F.args_list_getattribute_2 _ _) ?_
  refine wpAny_bind (wpAny_pure (wpAny_bind (wpAny_pure (wpAny_bind (L0.at (wpAny_bind (L3.at ?_)))))))
  refine wpAny_pure ⟨v, rfl, ?_⟩
  show wpAny _ _ (handedOut v) _ _ _
  rw [handedOut_of hh]
  exact wpAny_pure h

theorem method_l {name : Str} {pl : Sem Bool} {f : Value} {tf : Value} {Q : Value × List Value → Shared → Prop} (X : K.In s.heap) (I : InstAt s.heap x ox C od) (hga : findIn K (.ref C) "__getattribute__" = some (some (.builtin "list.__getattribute__")))
    (hgt : findIn K (.ref C) "__getattr__" = some none) (hf : findIn K (.ref C) name = some (some f)) (ht : Looks (model prog w) s.heap (typeOf f) tf) (hm : (tf != .type "function" && tf != .type "method_descriptor" && tf != .type "wrapper_descriptor") = false)
    (hs : shadowIn od name = some false) (h : Q (f, [.ref x]) s) :
    wpAny (model prog w) A (getMethod (.ref x) name pl) Q E s := by
  have hcan : (Manifest.canonical "list.__getattribute__" != "object.__getattribute__") = false := by decide +kernel
  unfold getMethod specialOf
  refine wpAny_bind (wpAny_bind (I.type.here ((looks_findIn X hga).here ?_)))
  dsimp only
  rw [hcan, if_neg (by decide)]
  refine wpAny_bind (wpAny_bind (I.type.here ((looks_findIn X hgt).here ?_)))
  refine wpAny_bind (wpAny_bind (I.type.here ((looks_findIn X hf).here (wpAny_bind (ht.here ?_)))))
  rw [hm, if_neg (by decide)]
  refine wpAny_bind (wpAny_loadPart I.at_ ?_)
  have hd := I.dict
  cases e : ox.dict with
  | none => exact wpAny_bind (wpAny_rule (wpAny_pure h))
  | some dx =>
    cases od with
    | none => rw [e] at hd; exact hd.elim
    | some o =>
      rw [e] at hd
      obtain ⟨r, a, b⟩ := Option.map_eq_some_iff.mp hs
      refine wpAny_bind (wpAny_bind (wpAny_loadPart hd ?_))
      rw [nsLook_of a]
      refine wpAny_pure ?_
      rw [b]
      exact wpAny_bind (wpAny_rule (wpAny_pure h))
theorem method_lb {name : Str} {pl : Sem Bool} {id : String} {Q : Value × List Value → Shared → Prop} (X : K.In s.heap) (I : InstAt s.heap x ox C od) (hga : findIn K (.ref C) "__getattribute__" = some (some (.builtin "list.__getattribute__")))
    (hgt : findIn K (.ref C) "__getattr__" = some none) (hf : findIn K (.ref C) name = some (some (.builtin id))) (ht : typeOf (.builtin id) = pure (.type "method_descriptor"))
    (hs : shadowIn od name = some false) (h : Q (.builtin id, [.ref x]) s) :
    wpAny (model prog w) A (getMethod (.ref x) name pl) Q E s := method_l X I hga hgt hf (.of_pure ht) (by decide +kernel) hs h
theorem method_lf {name : Str} {pl : Sem Bool} {f : Addr} {Q : Value × List Value → Shared → Prop} (X : K.In s.heap) (I : InstAt s.heap x ox C od) (hga : findIn K (.ref C) "__getattribute__" = some (some (.builtin "list.__getattribute__")))
    (hgt : findIn K (.ref C) "__getattr__" = some none) (hf : findIn K (.ref C) name = some (some (.ref f))) (ht : typeIn K (.ref f) = some (.type "function"))
    (hs : shadowIn od name = some false) (h : Q (.ref f, [.ref x]) s) :
    wpAny (model prog w) A (getMethod (.ref x) name pl) Q E s := method_l X I hga hgt hf (looks_typeIn X ht) (by decide +kernel) hs h
theorem mdesc_append : typeOf (.builtin "list.append") = pure (.type "method_descriptor") := by show builtinType _ = _; rw [builtinType_eq_fast]; kernel_rfl
theorem mdesc_pop : typeOf (.builtin "list.pop") = pure (.type "method_descriptor") := by show builtinType _ = _; rw [builtinType_eq_fast]; kernel_rfl
end
end Mine
end

section
open PySem PySem.W PySem.Calls PyProof.Rows
set_option maxRecDepth 100000
set_option maxHeartbeats 8000000
namespace Mine
structure Cx (w : World) (g : Heap) (ws : List Addr) (s₀ : Shared) (L : Addr) (m : Str → Option Value) (news : List (Addr × Obj)) (s : Shared) : Prop where
  B : Bg w g ws s₀
  big : (221 : Nat) ≤ L
  hL : s₀.heap.objs.size = L
  F : Fr g L s.heap m
  N : News g L s.heap news
  T : Tabs s.heap
  bare : AllBare s.gens
  os : s.os = s₀.os
  hi : ∀ p ∈ news, Hi p.1

section
variable {w : World} {g : Heap} {ws : List Addr} {s₀ s s' : Shared} {L : Addr} {m m' : Str → Option Value} {news news' : List (Addr × Obj)}
theorem Cx.get (c : Cx w g ws s₀ L m news s) {a : Addr} {o : Obj} (h : (a, o) ∈ news) : s.heap.get? a = some o := (c.N _ h).1
theorem Cx.base (c : Cx w g ws s₀ L m news s) {a : Addr} {o : Obj} (h : g.get? a = some o) : s.heap.get? a = some o := c.F.keep _ _ h
theorem Cx.X (c : Cx w g ws s₀ L m news s) : (KK w).In s.heap := c.B.gd.X.keeps c.F.keep
theorem Cx.gd (c : Cx w g ws s₀ L m news s) : Gd w s.heap := c.B.gd.keeps c.F.keep
theorem Cx.ok (c : Cx w g ws s₀ L m news s) : Ok w s := ⟨c.gd, c.T, c.bare⟩
theorem Cx.st (c : Cx w g ws s₀ L m news s) : St ws s₀ s := by
  refine ⟨fun b o h1 h2 e => c.F.keep b o (c.B.all b o h1 h2 e), ?_, c.os⟩
  obtain ⟨oL, _, _, e, _⟩ := c.F.ns
  exact Nat.le_of_lt (c.hL ▸ Heap.lt_size e)
theorem Cx.ext (c : Cx w g ws s₀ L m news s) (k : ∀ b o, s.heap.get? b = some o → s'.heap.get? b = some o) (hb : s'.gens = s.gens) (ho : s'.os = s.os) : Cx w g ws s₀ L m news s' :=
  ⟨c.B, c.big, c.hL, ⟨c.F.ns.keeps k, fun b o e => k b o (c.F.keep b o e), c.F.above⟩, fun p hp => ⟨k _ _ (c.N p hp).1, (c.N p hp).2⟩, c.T.keeps fun b o _ e => k b o e, hb ▸ c.bare, ho.trans c.os, c.hi⟩
theorem Cx.callH {ws' : List Addr} (c : Cx w g ws s₀ L m news s) (S : St ws' s s') (O : Ok w s') (hw : ∀ a ∈ ws', a ≠ L ∧ g.get? a = none) (hn : ∀ p ∈ news', s'.heap.get? p.1 = some p.2 ∧ p.1 ≠ L ∧ g.get? p.1 = none) (hi : ∀ p ∈ news', Hi p.1) : Cx w g ws s₀ L m news' s' := by
  refine ⟨c.B, c.big, c.hL, ⟨c.F.ns.at' fun o e => S.keep L o (fun q => (hw L q).1 rfl) (not_tab c.big) e, fun b o e => S.keep b o (fun q => ?_) (fun q => ?_) (c.F.keep b o e), c.F.above⟩, hn, O.tabs, O.bare, S.os.trans c.os, hi⟩
  · rw [(hw b q).2] at e; cases e
  · rw [c.B.tab b q] at e; cases e
theorem Cx.call {ws' : List Addr} (c : Cx w g ws s₀ L m news s) (S : St ws' s s') (O : Ok w s') (hw : ∀ a ∈ ws', a ≠ L ∧ g.get? a = none) (hn : ∀ p ∈ news', s'.heap.get? p.1 = some p.2 ∧ p.1 ≠ L ∧ g.get? p.1 = none) (hi : ∀ p ∈ news', (221 : Nat) ≤ p.1) : Cx w g ws s₀ L m news' s' :=
  c.callH S O hw hn fun p hp => .inl (hi p hp)
theorem Cx.call0 (c : Cx w g ws s₀ L m news s) (S : St [] s s') (O : Ok w s') : Cx w g ws s₀ L m news s' :=
  c.callH S O (fun _ h => nomatch h) (fun p hp => ⟨S.keep _ _ (fun h => nomatch h) (c.hi p hp).not_tab (c.N p hp).1, (c.N p hp).2⟩) c.hi
theorem Cx.call1 {a : Addr} {o o' : Obj} (c : Cx w g ws s₀ L m news s) (U : Upd a o o' news news') (S : St [a] s s') (O : Ok w s') (e : s'.heap.get? a = some o') : Cx w g ws s₀ L m news' s' := by
  obtain ⟨pre, post, rfl, rfl, h1, h2⟩ := U.split
  have z := c.N (a, o) (List.mem_append.mpr (.inr (.head _)))
  have hi := c.hi
  have all : ∀ p ∈ pre ++ (a, o') :: post, (s'.heap.get? p.1 = some p.2 ∧ p.1 ≠ L ∧ g.get? p.1 = none) ∧ Hi p.1 := fun p hp => by
    have old : ∀ p ∈ pre ++ (a, o) :: post, p.1 ≠ a → (s'.heap.get? p.1 = some p.2 ∧ p.1 ≠ L ∧ g.get? p.1 = none) ∧ Hi p.1 := fun p hp hne =>
      ⟨⟨S.keep _ _ (by simp [hne]) (hi p hp).not_tab (c.N p hp).1, (c.N p hp).2⟩, hi p hp⟩
    rcases List.mem_append.mp hp with q | q
    · exact old p (List.mem_append_left _ q) (h1 p q)
    · cases q with
      | head => exact ⟨⟨e, z.2⟩, hi (a, o) (List.mem_append.mpr (.inr (.head _)))⟩
      | tail _ q => exact old p (List.mem_append_right _ (.tail _ q)) (h2 p q)
  exact c.callH S O (fun b hb => by rw [List.mem_singleton] at hb; subst hb; exact z.2) (fun p hp => (all p hp).1) fun p hp => (all p hp).2
theorem Cx.new (c : Cx w g ws s₀ L m news s) {a : Addr} {o : Obj} (h : s.heap.get? a = some o) (hs : (s₀.heap.objs.size : Nat) < a) : Cx w g ws s₀ L m ((a, o) :: news) s := by
  refine ⟨c.B, c.big, c.hL, c.F, fun p hp => ?_, c.T, c.bare, c.os, fun p hp => by cases hp with | head => exact .inl (Nat.le_trans c.big (c.hL ▸ Nat.le_of_lt hs)) | tail _ hp => exact c.hi p hp⟩
  cases hp with
  | tail _ hp => exact c.N p hp
  | head =>
    refine ⟨h, fun e => ?_, ?_⟩
    · rw [← c.hL] at e
      exact absurd hs (by show ¬ (s₀.heap.objs.size : Nat) < a; rw [show a = s₀.heap.objs.size from e]; exact Nat.lt_irrefl _)
    · cases z : g.get? a with
      | none => rfl
      | some o' => exact absurd (Heap.lt_size (c.B.of_ _ _ z)) (Nat.lt_asymm hs)
theorem Cx.drop (c : Cx w g ws s₀ L m news s) (h : ∀ p ∈ news', p ∈ news) : Cx w g ws s₀ L m news' s := ⟨c.B, c.big, c.hL, c.F, fun p hp => c.N p (h p hp), c.T, c.bare, c.os, fun p hp => c.hi p (h p hp)⟩
theorem Cx.lt (c : Cx w g ws s₀ L m news s) : (s₀.heap.objs.size : Nat) < s.heap.objs.size := by
  obtain ⟨oL, _, _, e, _⟩ := c.F.ns
  exact c.hL ▸ Heap.lt_size e
theorem Cx.updH {a : Addr} {o o' : Obj} (c : Cx w g ws s₀ L m news s) (U : Upd a o o' news news') (ha : Hi a) (hs : Heap.SameBut a s.heap s'.heap) (ho : s'.heap.get? a = some o') (hb : s'.gens = s.gens) (hq : s'.os = s.os) : Cx w g ws s₀ L m news' s' := by
  obtain ⟨pre, post, rfl, rfl, h1, h2⟩ := U.split
  have z := c.N (a, o) (List.mem_append.mpr (.inr (.head _)))
  exact ⟨c.B, c.big, c.hL, c.F.change hs z.2.1 z.2.2, news_set c.N h1 h2 hs ho, c.T.keeps fun b o hb e => (hs.2 b fun q => ha.not_tab (q ▸ hb)).trans e, hb ▸ c.bare, hq.trans c.os, fun p hp => by rcases List.mem_append.mp hp with q | q; exact c.hi p (List.mem_append_left _ q); cases q with | head => exact ha | tail _ q => exact c.hi p (List.mem_append_right _ (.tail _ q))⟩
theorem Cx.upd {a : Addr} {o o' : Obj} (c : Cx w g ws s₀ L m news s) (U : Upd a o o' news news') (ha : (221 : Nat) ≤ a) (hs : Heap.SameBut a s.heap s'.heap) (ho : s'.heap.get? a = some o') (hb : s'.gens = s.gens) (hq : s'.os = s.os) : Cx w g ws s₀ L m news' s' :=
  c.updH U (.inl ha) hs ho hb hq

variable {prog : Program} {A : Around} {E : Value → Shared → Prop} {cn : Str} {cs : Scope} {a : Addr} {ccd : Value} {cl : List (Str × Addr)}
theorem c_store {x : Str} {v : Value} {Q : Unit → Shared → Prop} (c : Cx w g ws s₀ L m news s)
    (h : ∀ s', Cx w g ws s₀ L (fun y => if y = x then some v else m y) news s' → Q () s')
    (hk : cs.kind = .function := by rfl) (hx : (envX cn cs L a ccd cl).kindOf x = some .local := by rfl) : wpAny (model prog w) A (storeName (envX cn cs L a ccd cl) x v) Q E s :=
  wpAny_storeName_local hx c.F.ns (fun h' hn hs => h _ ⟨c.B, c.big, c.hL, c.F.set hn hs, c.N.set hs, c.T.keeps fun b o hb e => (hs.2 b fun q => not_tab c.big ((show b = L from q) ▸ hb)).trans e, c.bare, c.os, c.hi⟩) (by show (cs.kind == .class || (cs.kind == .module && L != mainGlobals)) = false; rw [hk]; rfl)
theorem c_name {x : Str} {pos : Pos} {v : Value} {Q : Value → Shared → Prop} (c : Cx w g ws s₀ L m news s) (hv : m x = some v) (h : Q v s)
    (hk : cs.kind = .function := by rfl) (hx : (envX cn cs L a ccd cl).kindOf x = some .local := by rfl) (hd : (x == ("__debug__" : Str)) = false := by decide) :
    wpAny (model prog w) A (eval (.Name x pos) (envX cn cs L a ccd cl)) Q E s := nameX_L c.F hv h hk hx hd
theorem c_glob {x : Str} {pos : Pos} {v : Value} {Q : Value → Shared → Prop} (c : Cx w g ws s₀ L m news s) (e : nsIn (KK w) mainGlobals x = some (some v)) (h : Q v s)
    (hk : cs.kind = .function := by rfl) (hx : (envX cn cs L a ccd cl).kindOf x = some .globalImplicit := by rfl) (hd : (x == ("__debug__" : Str)) = false := by decide) :
    wpAny (model prog w) A (eval (.Name x pos) (envX cn cs L a ccd cl)) Q E s := let ⟨_, _, _, _, T⟩ := c.B.gd.T; nameX_K c.F c.B.gd.X T e h hk hx hd
theorem c_built {x : Str} {pos : Pos} {v : Value} {Q : Value → Shared → Prop} (c : Cx w g ws s₀ L m news s) (e : nsIn (KK w) mainGlobals x = some none) (hv : bootBuiltins x = some v) (hn : x ≠ "__name__") (h : Q v s)
    (hk : cs.kind = .function := by rfl) (hx : (envX cn cs L a ccd cl).kindOf x = some .globalImplicit := by rfl) (hd : (x == ("__debug__" : Str)) = false := by decide) :
    wpAny (model prog w) A (eval (.Name x pos) (envX cn cs L a ccd cl)) Q E s := let ⟨_, _, _, _, T⟩ := c.B.gd.T; nameX_B c.F c.B.gd.X T e hv hn h hk hx hd
theorem c_int {i : Int} {k : Nat} {pos : Pos} {env : Env} {Q : Value → Shared → Prop} (c : Cx w g ws s₀ L m news s) (h : ∀ s' t, Cx w g ws s₀ L m news s' → Q (.int i t) s') :
    wpAny (model prog w) A (eval (.Constant (.int i) k pos) env) Q E s := wpAny_Constant_int (h _ _ (c.ext (fun _ _ e => e) rfl rfl))
theorem c_str {x : Str} {k : Nat} {pos : Pos} {env : Env} {Q : Value → Shared → Prop} (c : Cx w g ws s₀ L m news s) (h : ∀ s' t, Cx w g ws s₀ L m news s' → Q (.str x t) s') :
    wpAny (model prog w) A (eval (.Constant (.str x) k pos) env) Q E s := fun _ _ _ => h _ _ (c.ext (fun _ _ e => e) rfl rfl)
theorem c_tuple {vs : List Value} {Q : Value → Shared → Prop} (c : Cx w g ws s₀ L m news s) (h : ∀ s' t, Cx w g ws s₀ L m ((t, { cls := .type "tuple", data := .seq vs.toArray }) :: news) s' → (s.heap.objs.size : Nat) = t → Q (.ref t) s') (hsz : vs.length ≤ sizeLine := by size_fits) :
    wpAny (model prog w) A (newTuple vs) Q E s :=
  wpAny_newObj_type (h _ _ (Cx.new (c.ext (s' := { s with heap := s.heap.push { cls := .type "tuple", data := .seq vs.toArray } }) (fun _ _ e => Heap.get?_push_of_some _ e) rfl rfl) (Heap.get?_push_size _ rfl) c.lt) rfl) (by show vs.toArray.size ≤ sizeLine; rw [List.size_toArray]; exact hsz)
theorem c_list {vs : List Value} {Q : Value → Shared → Prop} (c : Cx w g ws s₀ L m news s) (h : ∀ s' t, Cx w g ws s₀ L m ((t, { cls := .type "list", data := .seq vs.toArray }) :: news) s' → (s.heap.objs.size : Nat) = t → Q (.ref t) s') (hsz : vs.length ≤ sizeLine := by size_fits) :
    wpAny (model prog w) A (newList vs) Q E s :=
  wpAny_newObj_type (h _ _ (Cx.new (c.ext (s' := { s with heap := s.heap.push { cls := .type "list", data := .seq vs.toArray } }) (fun _ _ e => Heap.get?_push_of_some _ e) rfl rfl) (Heap.get?_push_size _ rfl) c.lt) rfl) (by show vs.toArray.size ≤ sizeLine; rw [List.size_toArray]; exact hsz)

theorem c_enterH {Q : Value → Shared → Prop}
    {name qual : Str} {params : Arguments} {body : List Stmt} {scope : Scope} {cl : List (Str × Addr)} {dV kV doc pm cdv ct oc : Value} {an od : Option Addr} {osl : Array (Option Value)} {f : Addr} {args : List Value} {binds : List (Str × Value)}
    (own : List (Addr × Obj)) (O : Ok w s) (hroom : A.depth < recursionLimit)
    (hown : ∀ p ∈ own, Hi p.1 ∧ s.heap.get? p.1 = some p.2)
    (h : ∀ g L s₁, Cx w g (own.map (·.1)) s L (fun y => binds.reverse.lookup y) own s₁ →
      wpAny (model prog w) (A.deeper (envX qual scope L f cdv cl)) (execs body (envX qual scope L f cdv cl))
        (fun fl s' => Q (match fl with | .ret v => v | _ => .none) s') (fun _ _ => False) s₁)
    (ho : (hdz.heap_242 w.params).lookup f = some ⟨oc, od, .func (fnX name qual params body scope cl dV kV doc pm an cdv ct), osl⟩ := by k_is) (hf : (!(tabA.contains f)) = true := by rfl) (hcd : codeIn (KK w) cdv qual = true := by kernel_rfl)
    (hbind : BindsTo s (fnX name qual params body scope cl dV kV doc pm an cdv ct) ⟨args, []⟩ binds := by exact BindsTo.of_eq (by kernel_rfl)) (hloc : ∀ y ∈ binds, scope.names.lookup y.1 = some .local := by exact locs (by kernel_rfl))
    (hcell : ∀ x ∈ scope.names, x.2 ≠ .cell := by decide) (hco : scope.isCoroutine = false := by rfl) (hgen : scope.isGenerator = false := by rfl) (hk : scope.kind = .function := by rfl)
    :
    wpAny (model prog w) A (PySem.call (.ref f) args) Q E s := by
  have hbare := O.bare
  refine enter own O hroom hown ho hf hcd hbind hloc hcell hco hgen hk fun g L h₁ B big hL tp F N => ?_
  exact h g L _ ⟨B, big, hL, F, N, tp, hbare, rfl, fun q hq => (hown q hq).1⟩
theorem c_enter {Q : Value → Shared → Prop}
    {name qual : Str} {params : Arguments} {body : List Stmt} {scope : Scope} {cl : List (Str × Addr)} {dV kV doc pm cdv ct oc : Value} {an od : Option Addr} {osl : Array (Option Value)} {f : Addr} {args : List Value} {binds : List (Str × Value)}
    (own : List (Addr × Obj)) (O : Ok w s) (hroom : A.depth < recursionLimit)
    (hown : ∀ p ∈ own, (221 : Nat) ≤ p.1 ∧ s.heap.get? p.1 = some p.2)
    (h : ∀ g L s₁, Cx w g (own.map (·.1)) s L (fun y => binds.reverse.lookup y) own s₁ →
      wpAny (model prog w) (A.deeper (envX qual scope L f cdv cl)) (execs body (envX qual scope L f cdv cl))
        (fun fl s' => Q (match fl with | .ret v => v | _ => .none) s') (fun _ _ => False) s₁)
    (ho : (hdz.heap_242 w.params).lookup f = some ⟨oc, od, .func (fnX name qual params body scope cl dV kV doc pm an cdv ct), osl⟩ := by k_is) (hf : (!(tabA.contains f)) = true := by rfl) (hcd : codeIn (KK w) cdv qual = true := by kernel_rfl)
    (hbind : BindsTo s (fnX name qual params body scope cl dV kV doc pm an cdv ct) ⟨args, []⟩ binds := by exact BindsTo.of_eq (by kernel_rfl)) (hloc : ∀ y ∈ binds, scope.names.lookup y.1 = some .local := by exact locs (by kernel_rfl))
    (hcell : ∀ x ∈ scope.names, x.2 ≠ .cell := by decide) (hco : scope.isCoroutine = false := by rfl) (hgen : scope.isGenerator = false := by rfl) (hk : scope.kind = .function := by rfl)
    :
    wpAny (model prog w) A (PySem.call (.ref f) args) Q E s := by
  refine c_enterH own O hroom (fun p hp => ⟨.inl (hown p hp).1, (hown p hp).2⟩) h ho hf hcd hbind hloc hcell hco hgen hk
end
end Mine
end

section
open PySem PySem.W PySem.Calls PyProof.Rows
set_option maxRecDepth 100000
set_option maxHeartbeats 8000000
namespace Mine
namespace S
theorem slot_wd : Slot "wrapper_descriptor" "__get__" "wrapper_descriptor.__get__" :=
  .of (owner := "wrapper_descriptor") (n := "__get__") (by rw [typeLookup_type, builtinLookup_eq_fast]; kernel_rfl) (by decide +kernel) (by decide +kernel) (by decide +kernel)
    (by first | exact .inl (by decide +kernel) | exact .inr (by decide +kernel)) (by rw [isSubtype_type]; kernel_rfl)
theorem slot_md : Slot "method_descriptor" "__get__" "method_descriptor.__get__" :=
  .of (owner := "method_descriptor") (n := "__get__") (by rw [typeLookup_type, builtinLookup_eq_fast]; kernel_rfl) (by decide +kernel) (by decide +kernel) (by decide +kernel)
    (by first | exact .inl (by decide +kernel) | exact .inr (by decide +kernel)) (by rw [isSubtype_type]; kernel_rfl)
theorem entry_wd : entryFor table "wrapper_descriptor.__get__" = some Builtin.«wrapper_descriptor.__get__» := entryFor_of_tree (by kernel_rfl)
theorem entry_md : entryFor table "method_descriptor.__get__" = some Builtin.«method_descriptor.__get__» := entryFor_of_tree (by kernel_rfl)
theorem args_wd (a b c : Value) : argsOk "wrapper_descriptor.__get__" ⟨[a, b, c], []⟩ := by unfold argsOk; kernel_rfl
theorem args_md (a b c : Value) : argsOk "method_descriptor.__get__" ⟨[a, b, c], []⟩ := by unfold argsOk; kernel_rfl
theorem type_len : typeOf (.builtin "list.__len__") = pure (.type "wrapper_descriptor") := by show builtinType _ = _; rw [builtinType_eq_fast]; kernel_rfl
theorem type_init : typeOf (.builtin "list.__init__") = pure (.type "wrapper_descriptor") := by show builtinType _ = _; rw [builtinType_eq_fast]; kernel_rfl
theorem owner_len : ".".intercalate ("list.__len__".cutAt ('.')).dropLast = "list" := by decide +kernel
theorem owner_init : ".".intercalate ("list.__init__".cutAt ('.')).dropLast = "list" := by decide +kernel
theorem owner_pop : ".".intercalate ("list.pop".cutAt ('.')).dropLast = "list" := by decide +kernel
theorem told_pop : Manifest.toldItsClass.contains "list.pop" = false := by decide +kernel
end S
section
variable {prog : Program} {w : World} {A : Around} {E : Value → Shared → Prop} {s : Shared} {x C : Addr}
theorem run_wd {id : String} {P : Fin → Shared → Prop} (hid : ".".intercalate (id.cutAt '.').dropLast = "list") (hi : Looks (model prog w) s.heap (isInstance (.ref x) (.type "list")) true)
    (h : P (.done (.ret (.ref s.heap.objs.size))) { s with heap := s.heap.push { cls := .type "method-wrapper", data := .fields #[.builtin id, .ref x] } }) :
    wpAny (model prog w) A (Builtin.«wrapper_descriptor.__get__» ⟨[.builtin id, .ref x, .ref C], []⟩) P E s := by
  unfold Builtin.«wrapper_descriptor.__get__»
  refine wpAny_bind (wpAny_of_eq (a := (.builtin id, some (.ref x), some (.ref C))) (by rfl) ?_)
  refine wpAny_bind (wpAny_bind (wpAny_pure (wpAny_bind ?_)))
  show wpAny _ _ (isInstance (.ref x) (.type (".".intercalate (id.cutAt '.').dropLast))) _ _ _
  rw [hid]
  refine hi.here (wpAny_pure ?_)
  exact wpAny_bind (wpAny_newObj_type (wpAny_pure h))
theorem run_md {id : String} {P : Fin → Shared → Prop} (hid : ".".intercalate (id.cutAt '.').dropLast = "list") (ht : Manifest.toldItsClass.contains id = false) (hi : Looks (model prog w) s.heap (isInstance (.ref x) (.type "list")) true)
    (h : P (.done (.ret (.ref s.heap.objs.size))) { s with heap := s.heap.push { cls := .type "builtin_function_or_method", data := .fields #[.builtin id, .ref x] } }) :
    wpAny (model prog w) A (Builtin.«method_descriptor.__get__» ⟨[.builtin id, .ref x, .ref C], []⟩) P E s := by
  unfold Builtin.«method_descriptor.__get__»
  refine wpAny_bind (wpAny_of_eq (a := (.builtin id, some (.ref x), some (.ref C))) (by rfl) ?_)
  dsimp only
  rw [ht, if_neg (by decide)]
  refine wpAny_bind (wpAny_bind (wpAny_pure (wpAny_bind ?_)))
  show wpAny _ _ (isInstance (.ref x) (.type (".".intercalate (id.cutAt '.').dropLast))) _ _ _
  rw [hid]
  refine hi.here (wpAny_pure ?_)
  exact wpAny_bind (wpAny_newObj_type (wpAny_pure h))
end
end Mine
namespace Mine
section
variable {prog : Program} {w : World} {A : Around} {E : Value → Shared → Prop} {s : Shared} {x so : Addr}
noncomputable abbrev supObj (x : Addr) : Obj := { cls := .type "super", dict := none, data := .fields #[.ref 178, .ref x, .ref 178], slots := #[] }
noncomputable abbrev bndObj (T : String) (id : String) (x : Addr) : Obj := { cls := .type T, data := .fields #[.builtin id, .ref x] }
theorem mro200 (w : World) : (clsIn (KK w) 178).map (·.mro) = some [.ref 178, .type "list", .type "object"] := by kernel_rfl
theorem looks_mro200 {h : Heap} (X : (KK w).In h) : Looks (model prog w) h (mroOf (.ref 178)) [.ref 178, .type "list", .type "object"] := by
  have := mro200 w
  cases hc : clsIn (KK w) 178 with
  | none => rw [hc] at this; cases this
  | some cd =>
    rw [hc] at this
    have e : cd.mro = _ := Option.some.inj this
    rw [← e]
    exact fun A Q E s k q => wpAny_bind ((looks_clsIn X hc) A _ E s k (wpAny_pure q))

theorem super_ga {name : Str} {tk : Tok} {id T gid : String} {o' : Obj} {Q : Fin → Shared → Prop} (X : (KK w).In s.heap) (hso : s.heap.get? so = some (supObj x)) (hx : x ≠ 178)
    (hf : alongIn (KK w) name [.type "list", .type "object"] = some (some (.builtin id))) (hn : (name == ("__class__" : Str)) = false) (ht : typeOf (.builtin id) = pure (.type T)) (hg : typeLookup (.type T) "__get__" = pure (some (.builtin gid)))
    (hcall : ∀ {A' : Around} {Q' : Value → Shared → Prop} {E' : Value → Shared → Prop}, Q' (.ref s.heap.objs.size) { s with heap := s.heap.push o' } → wpAny (model prog w) A' (call (.builtin gid) [.builtin id, .ref x, .ref 178]) Q' E' s)
    (hq : Q (.done (.ret (.ref s.heap.objs.size))) { s with heap := s.heap.push o' }) :
    wpAny (model prog w) A (Builtin.«super.__getattribute__» ⟨[.ref so, .str name tk], []⟩) Q E s := by
  obtain ⟨h, g, d, t, os⟩ := s
  have hC := looks_mro200 (prog := prog) X
  have hno : Looks (model prog w) h (opaqueClassAbove (.ref 178)) none := looks_opaque X (by kernel_rfl)
  have hl : ([.ref 178, .type "list", .type "object"] : List Value).dropWhile (· != .ref 178) = [.ref 178, .type "list", .type "object"] := by rfl
  have hne : (Value.ref x == Value.ref 178) = false := by simp [hx]
  have hdt : (supObj x).data = .fields #[.ref 178, .ref x, .ref 178] := rfl
  have f0 : (#[.ref 178, .ref x, .ref 178] : Array Value)[0]? = some (.ref 178) := rfl
  have f1 : (#[.ref 178, .ref x, .ref 178] : Array Value)[1]? = some (.ref x) := rfl
  have f2 : (#[.ref 178, .ref x, .ref 178] : Array Value)[2]? = some (.ref 178) := rfl
  unfold Builtin.«super.__getattribute__»
  repeat (first
    | (with_reducible refine wpAny_field hso hdt f0 ?_) | (with_reducible refine wpAny_field hso hdt f1 ?_) | (with_reducible refine wpAny_field hso hdt f2 ?_)
    | (with_reducible refine ks_wpAny_notOpaque hno ?_)
    | (with_reducible refine Looks.at hC ?_; rw [hl])
    | (refine ks_forIn_along X (fun _ _ => rfl) rfl ?_ hf)
    | (with_reducible refine wpAny_of_eq ht ?_)
    | (with_reducible refine wpAny_of_eq hg ?_)
    | (with_reducible refine hcall ?_)
    | (simp only [hn, hne, Bool.or_false, Bool.false_eq_true, if_false])
    | wp_step
    | dsimp only)
  all_goals exact hq

theorem super_method {name : Str} {pl : Sem Bool} {id T gid : String} {o' : Obj} {Q : Value × List Value → Shared → Prop} (X : (KK w).In s.heap) (hso : s.heap.get? so = some (supObj x)) (hx : x ≠ 178)
    (hf : alongIn (KK w) name [.type "list", .type "object"] = some (some (.builtin id))) (hn : (name == ("__class__" : Str)) = false) (ht : typeOf (.builtin id) = pure (.type T)) (hg : typeLookup (.type T) "__get__" = pure (some (.builtin gid)))
    (hcall : ∀ {s' : Shared} {A' : Around} {Q' : Value → Shared → Prop} {E' : Value → Shared → Prop}, s'.heap = s.heap → Q' (.ref s'.heap.objs.size) { s' with heap := s'.heap.push o' } → wpAny (model prog w) A' (call (.builtin gid) [.builtin id, .ref x, .ref 178]) Q' E' s')
    (hq : Q (.ref s.heap.objs.size, []) { s with heap := s.heap.push o', toks := s.toks + 1 }) :
    wpAny (model prog w) A (getMethod (.ref so) name pl) Q E s := by
  obtain ⟨h, g, d, t, os⟩ := s
  have hlk := PySem.F.ks_slot_super_ga.lookup
  have hcan := PySem.F.ks_canon_super_ga
  have hT : ∀ t', (⟨h, g, d, t', os⟩ : Shared).TypeIs (.ref so) "super" := fun _ => ⟨_, hso, rfl⟩
  unfold getMethod
  refine wpAny_bind (wpAny_specialOf (hT _) hlk ?_)
  show wpAny _ _ (if (Manifest.canonical "super.__getattribute__" != "object.__getattribute__") = true then _ else _) _ _ _
  rw [if_pos hcan]
  unfold getAttr getAttrBy
  refine wpAny_bind (wpAny_bind (wpAny_mkText (wpAny_holding (wpAny_bind (wpAny_typeOf (hT _) (wpAny_bind (wpAny_of_eq hlk ?_)))))))
  show wpAny _ _ (getAttrByItsOwn (.ref so) (.str name t) (.type "super") (.builtin "super.__getattribute__") true false) _ _ _
  unfold getAttrByItsOwn hookBefore callGetattribute boundAndCalled
  refine wpAny_bind (wpAny_of_eq (show (if onTheHeap (.type "super") then typeLookup (.type "super") "__getattr__" else pure none) = pure none from rfl) ?_)
  refine wpAny_bind (wpAny_attempt (wpAny_holding ?_))
  show wpAny _ _ (bindSpecial (.builtin "super.__getattribute__") (.ref so) >>= _) _ _ _
  refine wpAny_bind (wpAny_of_eq (PySem.F.ks_slot_super_ga.bind _) ?_)
  refine wpAny_call_entry PySem.F.ks_slot_super_ga (hT _) PySem.F.ks_entry_super_ga (super_ga (s := ⟨h, g, d, t + 1, os⟩) X hso hx hf hn ht hg (fun q => hcall rfl q) ⟨_, rfl, ?_⟩) (PySem.F.ks_gaArgs_super _ _)
  exact wpAny_pure (wpAny_pure hq)

theorem super_slot {name : Str} {pl : Sem Bool} {id : String} {Q : Value × List Value → Shared → Prop} (X : (KK w).In s.heap) (hso : s.heap.get? so = some (supObj x)) (hx : x ≠ 178)
    (hi : Looks (model prog w) s.heap (isInstance (.ref x) (.type "list")) true)
    (hf : alongIn (KK w) name [.type "list", .type "object"] = some (some (.builtin id))) (hn : (name == ("__class__" : Str)) = false) (ht : typeOf (.builtin id) = pure (.type "wrapper_descriptor")) (hid : ".".intercalate (id.cutAt '.').dropLast = "list")
    (hq : Q (.ref s.heap.objs.size, []) { s with heap := s.heap.push (bndObj "method-wrapper" id x), toks := s.toks + 1 }) :
    wpAny (model prog w) A (getMethod (.ref so) name pl) Q E s :=
  super_method X hso hx hf hn ht S.slot_wd.lookup (fun {s' A' Q' E'} e q => wpAny_call_entry (T := "wrapper_descriptor") (name := "__get__") S.slot_wd ht S.entry_wd (run_wd hid (e ▸ hi) ⟨_, rfl, q⟩) (S.args_wd _ _ _)) hq
theorem super_meth {name : Str} {pl : Sem Bool} {id : String} {Q : Value × List Value → Shared → Prop} (X : (KK w).In s.heap) (hso : s.heap.get? so = some (supObj x)) (hx : x ≠ 178)
    (hi : Looks (model prog w) s.heap (isInstance (.ref x) (.type "list")) true)
    (hf : alongIn (KK w) name [.type "list", .type "object"] = some (some (.builtin id))) (hn : (name == ("__class__" : Str)) = false) (ht : typeOf (.builtin id) = pure (.type "method_descriptor")) (hid : ".".intercalate (id.cutAt '.').dropLast = "list") (htold : Manifest.toldItsClass.contains id = false)
    (hq : Q (.ref s.heap.objs.size, []) { s with heap := s.heap.push (bndObj "builtin_function_or_method" id x), toks := s.toks + 1 }) :
    wpAny (model prog w) A (getMethod (.ref so) name pl) Q E s :=
  super_method X hso hx hf hn ht S.slot_md.lookup (fun {s' A' Q' E'} e q => wpAny_call_entry (T := "method_descriptor") (name := "__get__") S.slot_md ht S.entry_md (run_md hid htold (e ▸ hi) ⟨_, rfl, q⟩) (S.args_md _ _ _)) hq
end
end Mine
end

section
open PySem PySem.W PySem.Calls PyProof.Rows
set_option maxRecDepth 100000
set_option maxHeartbeats 8000000
namespace Mine
section
variable {prog : Program} {w : World} {A : Around} {E : Value → Shared → Prop} {s : Shared} {x q : Addr}
theorem keeper_bnd {T id : String} (hT : T = "method-wrapper" ∨ T = "builtin_function_or_method") (h : Heap) (hq : h.get? q = some (bndObj T id x)) : ∃ k, (k = Keeper.frame ∨ k = Keeper.machine ∨ k = Keeper.boundFrame) ∧ Looks (model prog w) h (keeperOf (.ref q)) k := by
  refine ⟨.machine, .inr (.inl rfl), ?_⟩
  intro A Q E s k z
  unfold keeperOf
  refine wpAny_bind (wpAny_load (k _ _ hq) ?_)
  dsimp only
  rcases hT with rfl | rfl
  · rw [if_pos (by decide +kernel), if_pos (by decide +kernel)]; exact wpAny_pure z
  · rw [if_pos (by decide +kernel), if_pos (by decide +kernel)]; exact wpAny_pure z

theorem bound0 {T id : String} {b : Builtin} {pos : Pos} {env : Env} {Q : Value → Shared → Prop} (hT : T = "method-wrapper" ∨ T = "builtin_function_or_method") (hq : s.heap.get? q = some (bndObj T id x)) (hp : plainId id = true)
    (hchk : ∀ {A' : Around} {Q' : Unit → Shared → Prop} {E' : Value → Shared → Prop}, Q' () s → wpAny (model prog w) A' (checkBoundCall id ⟨[.ref x], []⟩) Q' E' s) (hb : entryFor table id = some b)
    (hc : wpAny (model prog w) A.in1 (b ⟨[.ref x], []⟩) (fun fin s' => ∃ v, fin = .done (.ret v) ∧ Q v s') E s) :
    wpAny (model prog w) A (callWith pos (.ref q) [] (backTo pos (starEach [] env)) []) Q E s := by
  refine callWith_of (P := fun h => h.get? q = some (bndObj T id x)) rfl (fun h hq => keeper_bnd hT h hq) (evalArgs_nil3 ⟨hq, ?_⟩)
  refine wpAny_call (codeAny_of_tree ?_)
  show wpAny _ A.in1 (callAny (.ref q) ⟨[], []⟩) _ _ _
  unfold callAny
  refine wpAny_bind (wpAny_load hq ?_)
  dsimp only
  have fin : wpAny (model prog w) A.in1 (do checkBoundCall id ⟨[.ref x], []⟩; again (.builtin id ⟨[.ref x], []⟩))
      (fun fin s' => match fin with | .done f => (match (Except.ok f : Result) with | .ok (.ret v) => Q v s' | .ok _ => False | .error e => E e s') | .again c' => c'.quiet = true ∧ codeAny (model prog w) A c' (fun r s' => match r with | .ok (.ret v) => Q v s' | .ok _ => False | .error e => E e s') s') (fun e s' => E e s') s := by
    refine wpAny_bind (hchk (wpAny_pure ⟨plainId_quiet hp _, codeAny_builtin hb ?_⟩))
    rw [Around.under_plainId hp]
    refine wpAny_mono hc (fun fin s' h' => ?_) fun _ _ h' => h'
    obtain ⟨v, rfl, hv⟩ := h'; exact hv
  rcases hT with rfl | rfl <;> exact fin

theorem chk_slot {id : String} {rest : List Value} {Q : Unit → Shared → Prop} (hk : builtinKind id = some .slot) (ha : argsOk id ⟨.ref x :: rest, []⟩) (q : Q () s) :
    wpAny (model prog w) A (checkBoundCall id ⟨.ref x :: rest, []⟩) Q E s := by
  unfold checkBoundCall
  cases hsig : Manifest.signature? id with
  | none => exact wpAny_pure q
  | some sig =>
    simp only [argsOk, hsig] at ha
    have h2 : Bind.checkArgs id sig ⟨.ref x :: rest, []⟩ = pure () := ha
    rw [hk]
    show wpAny _ _ (Bind.checkArgs id sig ⟨.ref x :: rest, []⟩) _ _ _
    rw [h2]; exact wpAny_pure q
end
end Mine
end

section
open PySem PySem.W PySem.Calls PyProof.Rows
set_option maxRecDepth 100000
set_option maxHeartbeats 8000000
namespace Mine
noncomputable abbrev PG : Program := PySem.Challenge.pw_ph0144_02
theorem pg_file : ((PG.main.file : Str) == Str.ofString "/claim/cut.py") = true := by kernel_rfl
theorem pg_super : (PG.main.scope.names.lookup ("super" : Str)).isSome = false := by kernel_rfl
section
variable {w : World} {g : Heap} {ws : List Addr} {s₀ s s' : Shared} {L : Addr} {m m' : Str → Option Value} {news news' : List (Addr × Obj)}
variable {A : Around} {E : Value → Shared → Prop}

theorem c_enterS {Q : Value → Shared → Prop}
    {name qual : Str} {params : Arguments} {body : List Stmt} {scope : Scope} {cl : List (Str × Addr)} {dV kV doc pm cdv ct oc : Value} {an od : Option Addr} {osl : Array (Option Value)} {f : Addr} {args : List Value} {binds : List (Str × Value)}
    (own : List (Addr × Obj)) (O : Ok w s) (hroom : A.depth < recursionLimit)
    (hown : ∀ p ∈ own, (221 : Nat) ≤ p.1 ∧ s.heap.get? p.1 = some p.2)
    (h : ∀ g L s₁, Cx w g (own.map (·.1)) s L (fun y => binds.reverse.lookup y) own s₁ →
      _root_.PySem.wpAt (model PG w) (A.deeper (envX qual scope L f cdv cl)) (.func body (envX qual scope L f cdv cl)) (execs body (envX qual scope L f cdv cl))
        (fun fl s' => Q (match fl with | .ret v => v | _ => .none) s') (fun _ _ => False) s₁)
    (ho : (hdz.heap_242 w.params).lookup f = some ⟨oc, od, .func (fnX name qual params body scope cl dV kV doc pm an cdv ct), osl⟩ := by k_is) (hf : (!(tabA.contains f)) = true := by rfl) (hcd : codeIn (KK w) cdv qual = true := by kernel_rfl)
    (hbind : BindsTo s (fnX name qual params body scope cl dV kV doc pm an cdv ct) ⟨args, []⟩ binds := by exact BindsTo.of_eq (by kernel_rfl)) (hloc : ∀ y ∈ binds, scope.names.lookup y.1 = some .local := by exact locs (by kernel_rfl))
    (hcell : ∀ x ∈ scope.names, x.2 ≠ .cell := by decide) (hco : scope.isCoroutine = false := by rfl) (hgen : scope.isGenerator = false := by rfl) (hk : scope.kind = .function := by rfl) :
    wpAny (model PG w) A (PySem.call (.ref f) args) Q E s := by
  obtain ⟨G, tp, bare⟩ := O
  refine wpAny_call (ks_codeAny_call_defAt (fd := fnX name qual params body scope cl dV kV doc pm an cdv ct) (body := body) (binds := binds) hroom (G.look ho hf) rfl G.lim (codeRec_of G.X hcd) rfl hbind hcell hloc (fun h₁ hns hk₁ => ?_) hco hgen hk)
  obtain ⟨B, big⟩ := base_of G hown
  exact ks_wpAt_mono (h _ _ _ ⟨B, big, rfl, ⟨hns, fun b o e => hk₁ b o (B.of_ b o e), Nat.le_of_eq (hideAll_size _ _)⟩,
    (fun q hq => ⟨hk₁ _ _ (hown q hq).2, Nat.ne_of_lt (Heap.lt_size (hown q hq).2), B.own _ (List.mem_map_of_mem hq)⟩), tp.keeps fun b o _ e => hk₁ b o e, bare, rfl, fun q hq => .inl (hown q hq).1⟩) (fun fl s' hq => hq) fun _ _ e => e.elim

theorem c_super {body : List Stmt} {q : Str} {scope : Scope} {p0 p1 : Pos} {attr : Str} {whole : Sem Value} {fd : FuncData} {ar : Arg} {vs : Array Value} {tf : Tok} {oc ccl cl : Value} {od cdd cld : Option Addr} {osl ccs csl : Array (Option Value)} {f cda cc x : Addr} {ox : Obj} {odx : Option Obj} {Q : Value → Shared → Prop}
    (c : Cx w g ws s₀ L m news s) (hv : m ar.arg = some (.ref x)) (I : InstAt s.heap x ox 178 odx)
    (h : ∀ so s', Cx w g ws s₀ L m ((so, supObj x) :: news) s' → (s.heap.objs.size : Nat) = so → Q (.ref so) s')
    (hf : (hdz.heap_242 w.params).lookup f = some ⟨oc, od, .func fd, osl⟩ := by k_is) (hf' : (!(tabA.contains f)) = true := by rfl) (hp : (fd.params.posonlyargs ++ fd.params.args).head? = some ar := by rfl)
    (hcode : (hdz.heap_242 w.params).lookup cda = some ⟨ccl, cdd, .fields vs, ccs⟩ := by k_is) (hcode' : (!(tabA.contains cda)) = true := by rfl) (hvs : vs[2]? = some (.str (Str.ofString "/claim/cut.py") tf) := by rfl)
    (hcell : (hdz.heap_242 w.params).lookup cc = some ⟨cl, cld, .cell (some (.ref 178)), csl⟩ := by k_is) (hcell' : (!(tabA.contains cc)) = true := by rfl)
    (hat : (attr == ("__class__" : Str)) = false := by decide) (hks : scope.names.lookup ("super" : Str) = some .globalImplicit := by rfl) (hkc : scope.names.lookup ("__class__" : Str) = some .free := by rfl) (hka : scope.names.lookup ar.arg = some .local := by rfl) (hk : scope.kind = .function := by rfl) :
    _root_.PySem.wpAt (model PG w) A (.func body (ksEnv q scope L f (.ref cda) cc)) (attributeBase (.Call (.Name "super" p0) [] [] p1) attr (ksEnv q scope L f (.ref cda) cc) whole) Q E s := by
  have X := c.X
  have hsuper : nsIn (KK w) mainGlobals "super" = some none := by kernel_rfl
  have hboot : bootBuiltins "super" = some (.type "super") := by rfl
  obtain ⟨p, loose, mg, mb, T⟩ := c.B.gd.T
  obtain ⟨oD, cdD, hD1, hD2⟩ : ∃ oD cdD, s.heap.get? 178 = some oD ∧ oD.data = .cls cdD := by
    have := mro200 w
    cases hc : clsIn (KK w) 178 with
    | none => rw [hc] at this; cases this
    | some cd =>
      unfold clsIn at hc
      split at hc
      · rename_i c' d' cd' sl ho
        exact ⟨_, _, X _ _ ho, rfl⟩
      · cases hc
  have hsub : mroIn (KK w) 178 (.ref 178) = some true := by kernel_rfl
  have hex := c.ext (s' := s) (fun _ _ e => e) rfl rfl
  obtain ⟨hh, gg, dd, t, os⟩ := s
  refine ks_wpAt_super_base (env := ksEnv q scope L f (.ref cda) cc) hks hkc hat rfl (c.gd.look hf hf') rfl hp rfl (c.gd.look hcode hcode') rfl hvs pg_file pg_super ?_
  refine ks_loadName_global hk hks (loadGlobal_builtin (env := ksEnv q scope L f (.ref cda) cc) (T.g.keeps c.F.keep) (mg_none_of c.B.gd.X T.g hsuper) (T.b.keeps c.F.keep) ((T.builtins _ (by decide +kernel)).trans hboot) ⟨rfl, ?_⟩)
  refine wpAny_loadName_free hk hkc rfl ⟨_, c.gd.look hcell hcell', rfl⟩ ?_
  refine wpAny_loadName_local hk hka c.F.ns hv ?_
  refine ks_wpAny_isType_cls hD1 hD2 ⟨rfl, ?_⟩
  refine ks_wpAny_call_super hD1 hD2 I.at_ I.cls (fun cc' e => ?_) (looks_mroIn X hsub) (fun h' e k => ?_)
  · have := I.no
    unfold notCls at this
    rw [e] at this
    exact Bool.noConfusion this
  · exact h _ _ (Cx.new (c.ext (s' := ⟨h', gg, dd, t, os⟩) k rfl rfl) e c.lt) rfl
end
end Mine
end

section
open PySem PySem.W PySem.Calls PyProof.Rows
set_option maxRecDepth 100000
set_option maxHeartbeats 8000000
namespace Mine
theorem fill : (PySem.Challenge.rw_ph0144_02, hdz.heap_242) = (PySem.Challenge.rw_ph0144_02, hdz.heap_242) := by k_fill; rfl
noncomputable abbrev accObj (d : Addr) (its : Array Value) (n : Nat) : Obj := { cls := .ref 178, dict := some d, data := .seq its n }
noncomputable abbrev accDict (hh : Int) (tk : Tok) (i : Int) (t : Tok) : Obj := dictOf [⟨hh, .str (Str.ofString "_initial_size") tk, .int i t⟩] 1
noncomputable abbrev tupObj (its : Array Value) : Obj := { cls := .type "tuple", data := .seq its }
structure AccAt (h : Heap) (a d : Addr) (its : Array Value) (n : Nat) (i : Int) : Prop where
  la : (221 : Nat) ≤ a
  ld : (221 : Nat) ≤ d
  oa : h.get? a = some (accObj d its n)
  od : ∃ hh tk t, h.get? d = some (accDict hh tk i t)
theorem AccAt.ne {h : Heap} {a d : Addr} {its : Array Value} {n : Nat} {i : Int} (x : AccAt h a d its n i) : d ≠ a := by
  obtain ⟨_, _, oa, hh, tk, t, od⟩ := x
  intro e
  rw [e, oa] at od
  cases od
theorem own1 {a : Addr} {o : Obj} {s : Shared} (la : (221 : Nat) ≤ a) (oa : s.heap.get? a = some o) : ∀ p ∈ [(a, o)], (221 : Nat) ≤ p.1 ∧ s.heap.get? p.1 = some p.2 := fun p hp => by cases hp with | head => exact ⟨la, oa⟩ | tail _ h => cases h

section
variable {prog : Program} {w : World} {A : Around} {E : Value → Shared → Prop} {s : Shared} {a d : Addr} {its : Array Value} {n : Nat} {i : Int} {hh : Int} {tk t : Tok}
theorem accI {h : Heap} (ea : h.get? a = some (accObj d its n)) (ed : h.get? d = some (accDict hh tk i t)) : InstAt h a (accObj d its n) 178 (some (accDict hh tk i t)) := ⟨ea, rfl, rfl, ed⟩
theorem acc_append {x : Value} {Q : Value → Shared → Prop} (X : (KK w).In s.heap) (I : InstAt s.heap a (accObj d its n) 178 (some (accDict hh tk i t))) (hsz : its.size ≤ 100000)
    (h : ∀ s', Heap.SameBut a s.heap s'.heap → s'.heap.get? a = some (accObj d (its.push x) (n + 1)) → s'.gens = s.gens → s'.os = s.os → Q .none s') :
    wpAny (model prog w) A (call (.builtin "list.append") [.ref a, x]) Q E s := by
  refine call_bi (owner := "list") (n := "append") (by decide +kernel) (.inl (by decide +kernel)) (by decide +kernel) (inst_is (K := KK w) (C := 178) X I (by kernel_rfl)) PySem.F.entry_list_append (PySem.F.args_list_append_2 _ _) ?_
  show wpAny _ _ (updateSeq a (·.push x) >>= fun _ => ret .none) _ _ _
  have hz : its.size ≤ sizeLine := Nat.le_trans hsz (by decide)
  refine wpAny_bind (wpAny_updateSeq (xs := its) (n := n) I.at_ rfl (wpAny_pure ⟨.none, rfl, h _ (Heap.SameBut.update ..) ?_ rfl rfl⟩))
  rw [Heap.get?_update_self _ I.at_ rfl]
  simp [Obj.mapSeq]
end

theorem push_ok {prog : Program} {w : World} {A : Around} {s : Shared} {E : Value → Shared → Prop} {Q : Value → Shared → Prop} {a d : Addr} {its : Array Value} {n : Nat} {i : Int} {f p : Value}
    (O : Ok w s) (hroom : A.depth < recursionLimit) (Y : AccAt s.heap a d its n i) (hsz : its.size ≤ 100000)
    (h : ∀ s' t, Ok w s' → St [a] s s' → AccAt s'.heap a d (its.push (.ref t)) (n + 1) i → s'.heap.get? t = some (tupObj #[f, p]) → (s.heap.objs.size : Nat) < t → Q .none s') :
    wpAny (model prog w) A (call (.ref 122) [.ref a, f, p]) Q E s := by
  have hne := Y.ne
  obtain ⟨la, ld, oa, hh, tk, t, od⟩ := Y
  refine c_enter (binds := [("self", .ref a), ("fws", f), ("string", p)]) [(a, accObj d its n)] O hroom (own1 la oa) fun g L s₁ c => ?_
  have gd : g.get? d = some (accDict hh tk i t) := c.B.all d _ (by simp [hne]) (not_tab ld) od
  refine wpAny_execs_cons (wpAny_Expr (MethodCall_ (c_name c rfl ?_)))
  refine method_lb (K := KK w) (C := 178) c.X (accI (c.get (.head _)) (c.base gd)) (by kernel_rfl) (by kernel_rfl) (id := "list.append") (by kernel_rfl) mdesc_append (by rfl) ?_
  refine callWith_method1 (spliced_more (Tuple_ (spliced_more (c_name c rfl (spliced_more (c_name c rfl (spliced_none ?_)))))))
  refine c_tuple c fun s₂ u c₂ hu => ?_
  refine spliced_none ?_
  have lu : (s.heap.objs.size : Nat) < u := hu ▸ c.lt
  have hua : u ≠ a := fun e => absurd (Heap.lt_size oa) (by rw [← e]; exact Nat.lt_asymm lu)
  refine acc_append c₂.X (accI (c₂.get (.tail _ (.head _))) (c₂.base gd)) hsz fun s₃ hs₃ e₃ hg₃ ho₃ => ?_
  have c₃ := c₂.upd (Upd.tail hua (Upd.head (fun _ h => nomatch h))) la hs₃ e₃ hg₃ ho₃
  refine wpAny_execs_nil ?_
  exact h s₃ u c₃.ok c₃.st ⟨la, ld, e₃, hh, tk, t, c₃.base gd⟩ (c₃.get (.head _)) lu
end Mine
end

section
open PySem PySem.W PySem.Calls PyProof.Rows
set_option maxRecDepth 100000
set_option maxHeartbeats 8000000
namespace Mine
theorem fill2 : (PySem.Challenge.rw_ph0144_02, hdz.heap_242) = (PySem.Challenge.rw_ph0144_02, hdz.heap_242) := by k_fill; rfl
theorem no_own {s : Shared} : ∀ p ∈ ([] : List (Addr × Obj)), (221 : Nat) ≤ p.1 ∧ s.heap.get? p.1 = some p.2 := fun _ h => nomatch h
theorem ne200 {a : Addr} (h : (221 : Nat) ≤ a) : a ≠ 178 := by rintro rfl; exact absurd h (by decide)
theorem args_len (x : Value) : argsOk "list.__len__" ⟨[x], []⟩ := by unfold argsOk; kernel_rfl
theorem chk_len {w : World} {x : Addr} {A' : Around} {Q' : Unit → Shared → Prop} {E' : Value → Shared → Prop} {s : Shared} (q : Q' () s) : wpAny (model PG w) A' (checkBoundCall "list.__len__" ⟨[.ref x], []⟩) Q' E' s := by
  with_reducible refine chk_slot ?_ ?_ ?_
  · decide +kernel
  · exact args_len _
  · exact q
section
variable {w : World} {A : Around} {E : Value → Shared → Prop} {s : Shared} {Q : Value → Shared → Prop} {a d : Addr} {its : Array Value} {n : Nat} {i : Int}
theorem part_count_ok (O : Ok w s) (hroom : A.depth < recursionLimit) (Y : AccAt s.heap a d its n i)
    (h : ∀ s' t, Ok w s' → St [] s s' → Q (.int its.size t) s') :
    wpAny (model PG w) A (call (.ref 175) [.ref a]) Q E s := by
  obtain ⟨la, ld, oa, hh, tk, t, od⟩ := Y
  refine c_enterS (binds := [("self", .ref a)]) [] O hroom no_own fun g L s₁ c => ?_
  have gd : g.get? d = some (accDict hh tk i t) := c.B.all d _ (fun h => nomatch h) (not_tab ld) od
  have ga : g.get? a = some (accObj d its n) := c.B.all a _ (fun h => nomatch h) (not_tab la) oa
  have I : ∀ {m news s'}, Cx w g [] s L m news s' → InstAt s'.heap a (accObj d its n) 178 (some (accDict hh tk i t)) := fun c => accI (c.base ga) (c.base gd)
  refine ks_wpAt_execs_cons (ks_wpAt_Return_some (ks_wpAt_MethodCall ?_))
  refine c_super c rfl (I c) fun so s₂ c₂ hso => ?_
  refine super_slot c₂.X (c₂.get (.head _)) (ne200 la) (inst_is (K := KK w) (C := 178) c₂.X (I c₂) (by kernel_rfl)) (by kernel_rfl) (by decide) S.type_len S.owner_len ?_
  have c₃ := Cx.new (a := s₂.heap.objs.size) (o := bndObj "method-wrapper" "list.__len__" a) (c₂.ext (s' := { s₂ with heap := s₂.heap.push (bndObj "method-wrapper" "list.__len__" a), toks := s₂.toks + 1 }) (fun _ _ e => Heap.get?_push_of_some _ e) rfl rfl) (Heap.get?_push_size _ rfl) c₂.lt
  refine bound0 (.inl rfl) (c₃.get (.head _)) (by decide +kernel) chk_len PySem.F.entry_list_len ?_
  · refine wpAny_bind (wpAny_pure ?_)
    refine wpAny_bind ?_
    unfold seqSize
    refine wpAny_bind (wpAny_loadPart (c₃.base ga) ?_)
    refine wpAny_pure ?_
    refine wpAny_bind (wpAny_mkInt (wpAny_pure ⟨_, rfl, ?_⟩))
    have c₄ := c₃.ext (s' := { s₂ with heap := s₂.heap.push (bndObj "method-wrapper" "list.__len__" a), toks := s₂.toks + 1 + 1 }) (fun _ _ e => e) rfl rfl
    exact h _ _ c₄.ok c₄.st
end
end Mine
end

section
open PySem PySem.W PySem.Calls PyProof.Rows
set_option maxRecDepth 100000
set_option maxHeartbeats 8000000
namespace Mine
section
variable {w : World} {A : Around} {E : Value → Shared → Prop} {s : Shared} {Q : Value → Shared → Prop} {a d : Addr} {its : Array Value} {n : Nat} {i : Int} {hh : Int} {tk t : Tok}
theorem pop_sig : ∃ sig, Manifest.signature? "list.pop" = some sig ∧ ∀ x : Value, Bind.checkArgs "list.pop" { sig with full := toString "_Accumulator" ++ toString "." ++ toString "pop" } ⟨[x], []⟩ = pure () := by
  have h : (Manifest.signature? "list.pop").isSome = true := by decide +kernel
  obtain ⟨sig, hs⟩ := Option.isSome_iff_exists.mp h
  refine ⟨sig, hs, fun x => ?_⟩
  have h2 : (match Manifest.signature? "list.pop" with | some sig => Bind.checkArgs "list.pop" { sig with full := toString "_Accumulator" ++ toString "." ++ toString "pop" } ⟨[x], []⟩ | none => pure ()) = pure () := by kernel_rfl
  rw [hs] at h2
  exact h2
theorem qual200 (w : World) : (clsIn (KK w) 178).map (·.qualname.toString) = some "_Accumulator" := by kernel_rfl
theorem chk_pop {Q' : Unit → Shared → Prop} (X : (KK w).In s.heap) (I : InstAt s.heap a (accObj d its n) 178 (some (accDict hh tk i t))) (q : Q' () s) : wpAny (model PG w) A (checkBoundCall "list.pop" ⟨[.ref a], []⟩) Q' E s := by
  obtain ⟨sig, hs, ha⟩ := pop_sig
  have hq := qual200 w
  have hk : builtinKind "list.pop" = some .method := by decide +kernel
  have hv : Manifest.varargsMethods.contains "list.pop" = false := by decide +kernel
  have hlast : Bind.lastOf "list.pop" = "pop" := by decide +kernel
  have hi : Looks (model PG w) s.heap (isInstance (.ref a) (.type "module")) false := I.type.andThen (looks_subIn X (by kernel_rfl))
  obtain ⟨h, g, dd, tt, os⟩ := s
  cases hc : clsIn (KK w) 178 with
  | none => rw [hc] at hq; cases hq
  | some cd =>
    rw [hc] at hq
    have hqn : cd.qualname.toString = "_Accumulator" := Option.some.inj hq
    have hcd := looks_clsIn (M := model PG w) X hc
    have hty : Looks (model PG w) h (typeOf (.ref 178)) (.type "type") := looks_typeIn X (by kernel_rfl)
    unfold checkBoundCall
    rw [hs, hk, hlast]
    dsimp only
    rw [if_neg (by decide)]
    refine wpAny_bind (hi.at ?_)
    rw [hv, if_neg (by decide)]
    refine wpAny_bind (ks_wpAny_isType_inst I.at_ (fun c e => by cases e) ?_)
    rw [if_neg (by decide)]
    refine wpAny_bind (I.type.at ?_)
    dsimp only
    refine wpAny_bind (hcd.at (wpAny_bind (hty.at ?_)))
    rw [if_pos (by decide), hqn]
    exact wpAny_of_eq (ha _) q

theorem acc_pop {x : Value} {A : Around} {E : Value → Shared → Prop} {Q : Value → Shared → Prop} (ha : s.heap.get? a = some (accObj d (its.push x) n)) (hsz : its.size ≤ 100000)
    (h : ∀ s', Heap.SameBut a s.heap s'.heap → s'.heap.get? a = some (accObj d its (n + 1)) → s'.gens = s.gens → s'.os = s.os → Q x s') :
    wpAny (model PG w) A (Builtin.«list.pop» ⟨[.ref a], []⟩) (fun fin s' => ∃ v, fin = .done (.ret v) ∧ Q v s') E s := by
  unfold Builtin.«list.pop»
  refine wpAny_bind (wpAny_of_eq (a := (.ref a, [])) (by rfl) ?_)
  refine wpAny_bind (wpAny_of_eq (a := (-1 : Int)) (by rfl) ?_)
  dsimp only
  rw [if_neg (by decide +kernel)]
  have hz : (its.push x).size ≤ sizeLine := by rw [Array.size_push]; exact Nat.le_trans (Nat.succ_le_succ hsz) (by decide)
  refine wpAny_bind (wpAny_listItems ha rfl ?_)
  have e1 : (its.push x).isEmpty = false := by simp
  have e2 : seqIndex? (-1) (its.push x).size = some its.size := by
    unfold seqIndex?
    rw [Array.size_push]
    have : ((-1 : Int) < 0) = True := by simp
    simp only [this, if_true]
    have h2 : (-1 : Int) + ((its.size + 1 : Nat) : Int) = (its.size : Int) := by (exact om94)
    rw [h2]
    have h3 : (decide ((0 : Int) ≤ (its.size : Int)) && decide ((its.size : Int) < ((its.size + 1 : Nat) : Int))) = true := by
      rw [Bool.and_eq_true]; exact ⟨decide_eq_true (by (exact Int.natCast_nonneg _)), decide_eq_true (by (exact om95))⟩
    rw [if_pos h3]
    rfl
  have e3 : (its.push x)[its.size]? = some x := by simp
  rw [e1, if_neg (by decide), e2]
  simp only [Option.bind_some, e3, Option.map_some]
  show wpAny _ _ (updateSeq a (fun xs => xs.eraseIdxIfInBounds its.size) >>= fun _ => ret x) _ _ _
  have e4 : (its.push x).eraseIdxIfInBounds its.size = its := by
    apply Array.ext'
    simp only [Array.eraseIdxIfInBounds, Array.size_push, Nat.lt_succ_self, dif_pos, Array.toList_eraseIdx, Array.toList_push]
    rw [List.eraseIdx_append_of_length_le (by simp)]
    simp
  refine wpAny_bind (wpAny_updateSeq (xs := its.push x) (n := n) ha rfl (wpAny_pure ⟨x, rfl, h _ (Heap.SameBut.update ..) ?_ rfl rfl⟩) hz (by rw [e4]; exact Nat.le_succ_of_le (Nat.le_trans hsz (by decide))))
  rw [Heap.get?_update_self _ ha rfl]
  simp only [Obj.mapSeq, e4, Array.size_push]
  rw [if_neg (by simp)]

theorem acc_meth {name : Str} {f : Addr} {pl : Sem Bool} {Q : Value × List Value → Shared → Prop} (X : (KK w).In s.heap) (I : InstAt s.heap a (accObj d its n) 178 (some (accDict hh tk i t))) (h : Q (.ref f, [.ref a]) s)
    (hf : findIn (KK w) (.ref 178) name = some (some (.ref f)) := by kernel_rfl) (ht : typeIn (KK w) (.ref f) = some (.type "function") := by kernel_rfl)
    (hs : shadowIn (some (accDict hh tk i t)) name = some false := by rfl) :
    wpAny (model PG w) A (getMethod (.ref a) name pl) Q E s := method_lf (K := KK w) X I (by kernel_rfl) (by kernel_rfl) hf ht hs h

theorem pop_ok {x : Value} (O : Ok w s) (hroom : A.depth + 1 < recursionLimit) (Y : AccAt s.heap a d (its.push x) n i) (hsz : its.size ≤ 100000)
    (h : ∀ s', Ok w s' → St [a] s s' → AccAt s'.heap a d its (n + 1) i → Q x s') :
    wpAny (model PG w) A (call (.ref 138) [.ref a]) Q E s := by
  have hne := Y.ne
  obtain ⟨la, ld, oa, hh, tk, t, od⟩ := Y
  refine c_enterS (binds := [("self", .ref a)]) [(a, accObj d (its.push x) n)] O (Nat.lt_of_succ_lt hroom) (own1 la oa) fun g L s₁ c => ?_
  have gd : g.get? d = some (accDict hh tk i t) := c.B.all d _ (by simp [hne]) (not_tab ld) od
  have I : ∀ {m news s' its n}, Cx w g [a] s L m news s' → (a, accObj d its n) ∈ news → InstAt s'.heap a (accObj d its n) 178 (some (accDict hh tk i t)) := fun c q => accI (c.get q) (c.base gd)
  refine ks_wpAt_execs_cons (ks_wpAt_If (wpAt_of_wpAny (wpAny_isTrue_Compare1 (MethodCall_ (c_name c rfl ?_)))))
  refine acc_meth (f := 175) c.X (I c (.head _)) ?_
  refine callWith_K0 (K := KK w) c.X (by kernel_rfl) ?_
  refine part_count_ok c.ok hroom ⟨la, ld, c.get (.head _), hh, tk, t, c.base gd⟩ fun s₂ t₂ O₂ S₂ => ?_
  have c₂ := c.call0 S₂ O₂
  refine c_int c₂ fun s₃ t₃ c₃ => ?_
  refine eq_int (wpAny_truthy_bool ?_)
  have e1 : ((((its.push x).size : Nat) : Int) == 0) = false := by rw [Array.size_push]; exact beq_eq_false_iff_ne.mpr (by (exact om96 hsz))
  rw [e1, if_neg (by decide)]
  refine wpAt_of_wpAny (wpAny_execs_nil ?_)
  refine ks_wpAt_execs_cons (ks_wpAt_Return_some (ks_wpAt_MethodCall ?_))
  refine c_super c₃ rfl (I c₃ (.head _)) fun so s₄ c₄ hso => ?_
  refine super_meth c₄.X (c₄.get (.head _)) (ne200 la) (inst_is (K := KK w) (C := 178) c₄.X (I c₄ (.tail _ (.head _))) (by kernel_rfl)) (by kernel_rfl) (by decide) mdesc_pop S.owner_pop S.told_pop ?_
  have c₅ := Cx.new (a := s₄.heap.objs.size) (o := bndObj "builtin_function_or_method" "list.pop" a) (c₄.ext (s' := { s₄ with heap := s₄.heap.push (bndObj "builtin_function_or_method" "list.pop" a), toks := s₄.toks + 1 }) (fun _ _ e => Heap.get?_push_of_some _ e) rfl rfl) (Heap.get?_push_size _ rfl) c₄.lt
  refine bound0 (.inr rfl) (c₅.get (.head _)) (by decide +kernel) (fun q => ?_) PySem.F.entry_list_pop ?_
  · exact chk_pop c₅.X (I c₅ (.tail _ (.tail _ (.head _)))) q
  refine acc_pop (c₅.get (.tail _ (.tail _ (.head _)))) hsz fun s₆ hs₆ e₆ hg₆ ho₆ => ?_
  have c₆ := (c₅.drop (news' := [(a, accObj d (its.push x) n)]) (fun p hp => .tail _ (.tail _ hp))).upd (Upd.head (fun _ h => nomatch h)) la hs₆ e₆ hg₆ ho₆
  exact h s₆ c₆.ok c₆.st ⟨la, ld, e₆, hh, tk, t, c₆.base gd⟩
end
end Mine
end

section
open PySem PySem.W PySem.Calls PyProof.Rows
set_option maxRecDepth 100000
set_option maxHeartbeats 8000000
namespace Mine
section
variable {w : World} {A : Around} {E : Value → Shared → Prop} {s : Shared} {a d : Addr} {its ys : Array Value} {n ny : Nat} {i : Int} {hh : Int} {tk t : Tok} {sl l : Addr} {vl : Value} {lo : Option Int}
noncomputable abbrev listObj (its : Array Value) (n : Nat) : Obj := { cls := .type "list", data := .seq its n }
noncomputable abbrev sliceObj (l u st : Value) : Obj := { cls := .type "slice", data := .fields #[l, u, st] }

theorem acc_spec {name : Str} {id : String} {args : List Value} {Q : Option Value → Shared → Prop} (X : (KK w).In s.heap) (I : InstAt s.heap a (accObj d its n) 178 (some (accDict hh tk i t))) (hf : findIn (KK w) (.ref 178) name = some (some (.builtin id)))
    (hb : ∀ self, bindSpecial (.builtin id) self = pure (.builtin id, [self])) (h : wpAny (model PG w) A (call (.builtin id) (.ref a :: args)) (fun v => Q (some v)) E s) :
    wpAny (model PG w) A (callSpecial? (.ref a) name args) Q E s :=
  wpAny_bind (wpAny_bind (I.type.here ((looks_findIn X hf).here (wpAny_holding (wpAny_bind (wpAny_of_eq (hb _) (wpAny_bind (wpAny_mono h (fun _ _ z => wpAny_pure z) fun _ _ z => z))))))))
theorem acc_seqKey {k : Value} {name : Str} {Q : Value → Shared → Prop} (X : (KK w).In s.heap) (I : InstAt s.heap a (accObj d its n) 178 (some (accDict hh tk i t))) (h : Q k s) : wpAny (model PG w) A (sequenceKey (.ref a) k name) Q E s := by
  unfold sequenceKey
  refine wpAny_bind (I.type.here ?_)
  refine wpAny_bind ((anyM_none X (C := 178) (by kernel_rfl)).here ?_)
  rw [if_pos (show (!false) = true from rfl)]
  exact wpAny_pure h

noncomputable def cutAt (its : Array Value) (lo : Option Int) : Nat := (sliceBounds lo none none its.size).1.toNat
theorem set_slice {Q : Value → Shared → Prop} (ha : s.heap.get? a = some (accObj d its n)) (hs : s.heap.get? sl = some (sliceObj vl .none .none)) (pl : IsPart vl lo) (hl : s.heap.get? l = some (listObj ys ny)) (hsz : its.size + ys.size ≤ 100000)
    (h : ∀ s' n', Heap.SameBut a s.heap s'.heap → s'.heap.get? a = some (accObj d (its.extract 0 (cutAt its lo) ++ ys) n') → s'.gens = s.gens → s'.os = s.os → Q .none s') :
    wpAny (model PG w) A (Builtin.«list.__setitem__» ⟨[.ref a, .ref sl, .ref l], []⟩) (fun fin s' => ∃ v, fin = .done (.ret v) ∧ Q v s') E s := by
  have hTs : s.TypeIs (.ref sl) "slice" := ⟨_, hs, rfl⟩
  have hTl : s.TypeIs (.ref l) "list" := ⟨_, hl, rfl⟩
  have hne : l ≠ a := fun e => by rw [e, ha] at hl; cases hl
  unfold Builtin.«list.__setitem__»
  refine wpAny_bind (wpAny_of_eq (a := (.ref a, [.ref sl, .ref l])) (by rfl) ?_)
  dsimp only
  refine wpAny_bind ?_
  unfold Builtin.List.listSubscript?
  refine wpAny_bind (wpAny_specialOf hTs slice_no_index ?_)
  simp only [Option.isNone_none, if_true]
  refine wpAny_pure ?_
  refine wpAny_bind (wpAny_typeOf hTs ?_)
  rw [if_neg (by decide), listSliceParts_eq]
  refine wpAny_bind (wpAny_bind (wpAny_field hs rfl (x := .none) rfl (wpAny_bind (wpAny_listPart IsPart.none ?_))))
  rw [if_neg (by decide)]
  refine wpAny_bind (wpAny_field hs rfl (x := vl) rfl (wpAny_bind (wpAny_listPart pl ?_)))
  refine wpAny_bind (wpAny_field hs rfl (x := .none) rfl (wpAny_bind (wpAny_listPart IsPart.none (wpAny_pure ?_))))
  dsimp only
  have hsame : Builtin.List.listSameRef (.ref a) (.ref l) = false := by simp [Builtin.List.listSameRef, Ne.symm hne]
  rw [hsame, if_neg (by decide)]
  refine wpAny_bind ?_
  unfold Builtin.List.listAllItems
  refine wpAny_bind (wpAny_typeOf hTl ?_)
  rw [if_pos (by decide)]
  refine wpAny_listItems hl rfl ?_
  refine wpAny_bind (wpAny_listItems ha rfl ?_)
  refine wpAny_bind (wpAny_of_eq (sliceIndices_raw lo none none its.size (by simp)) ?_)
  have e1 : (sliceBounds lo none none its.size).2.1 = (its.size : Int) := rfl
  have e2 : (sliceBounds lo none none its.size).2.2 = 1 := rfl
  have e3 : (sliceBounds lo none none its.size).1 ≤ (its.size : Int) := by
    unfold sliceBounds
    cases lo with
    | none => simp
    | some k => simp only [Option.getD_none]; simp only [show ((1 : Int) > 0) = True from by simp, if_true]; (exact om97 hsz e1)
  generalize hsb : sliceBounds lo none none its.size = sb at e1 e2 e3 ⊢
  obtain ⟨st, sp, stp⟩ := sb
  dsimp only at e1 e2 e3 ⊢
  subst e1 e2
  rw [if_pos (by decide)]
  refine wpAny_bind (wpAny_rule ?_)
  have e4 : Builtin.List.listTooLong (its.size + ys.size) = false := by
    unfold Builtin.List.listTooLong
    exact decide_eq_false (Nat.not_lt.mpr (Nat.le_trans hsz (by decide)))
  rw [e4, if_neg (by decide)]
  have e5 : (max st (its.size : Int)).toNat = its.size := by (exact om98 e3)
  have e6 : st.toNat ≤ its.size := by (exact om99 hsz e3 e5)
  have ecut : st.toNat = cutAt its lo := by unfold cutAt; rw [hsb]
  rw [e5]
  have hf : (its.extract 0 st.toNat ++ ys ++ its.extract its.size its.size) = its.extract 0 (cutAt its lo) ++ ys := by
    rw [← ecut]; apply Array.ext'; simp
  have hz : its.size ≤ sizeLine := Nat.le_trans (Nat.le_trans (Nat.le_add_right _ _) hsz) (by decide)
  have hz2 : (its.extract 0 st.toNat ++ ys ++ its.extract its.size its.size).size ≤ sizeLine + 1 := by
    rw [hf, ← ecut]
    simp only [Array.size_append, Array.size_extract]
    exact Nat.le_succ_of_le (Nat.le_trans (by (exact om100 hsz e5 e6 ecut)) (Nat.le_trans hsz (by decide)))
  show wpAny _ _ (updateSeq a (fun xs => xs.extract 0 st.toNat ++ ys ++ xs.extract its.size xs.size) >>= _) _ _ _
  refine wpAny_bind (wpAny_updateSeq (xs := its) (n := n) ha rfl ?_ hz hz2)
  refine wpAny_bind (wpAny_letGo (wpAny_pure ⟨.none, rfl, h _ (if (its.extract 0 (cutAt its lo) ++ ys).size == its.size then n else n + 1) (Heap.SameBut.update ..) ?_ rfl rfl⟩))
  rw [Heap.get?_update_self _ ha rfl]
  simp only [Obj.mapSeq, hf]

theorem pick_from {its : Array Value} {lo : Option Int} : slicePick its lo none none = its.extract (cutAt its lo) its.size := by
  have e1 : (sliceBounds lo none none its.size).2.1 = (its.size : Int) := rfl
  have e2 : (sliceBounds lo none none its.size).2.2 = 1 := rfl
  have e0 : 0 ≤ (sliceBounds lo none none its.size).1 ∧ (sliceBounds lo none none its.size).1 ≤ (its.size : Int) := by
    unfold sliceBounds
    cases lo with
    | none => simp
    | some k => simp only [Option.getD_none]; simp only [show ((1 : Int) > 0) = True from by simp, if_true]; (exact om101)
  unfold slicePick cutAt
  generalize sliceBounds lo none none its.size = sb at e1 e2 e0 ⊢
  obtain ⟨st, sp, stp⟩ := sb
  dsimp only at e1 e2 e0 ⊢
  subst e1 e2
  obtain ⟨k, rfl⟩ := Int.eq_ofNat_of_zero_le e0.1
  have hk : k ≤ its.size := by (exact om102 e0)
  have hr : sliceRange (k : Int) (its.size : Int) 1 = (List.range (its.size - k)).map fun j => k + j := by
    unfold sliceRange
    have hc : ((if (1 : Int) > 0 then (if (k : Int) < (its.size : Int) then ((its.size : Int) - (k : Int) + 1 - 1) / 1 else 0) else (if (k : Int) > (its.size : Int) then ((k : Int) - (its.size : Int) - 1 - 1) / (-1) else 0)) : Int).toNat = its.size - k := by
      rw [if_pos (by decide)]
      split <;> lia
    simp only [hc]
    apply List.map_congr_left
    intro j _
    (exact om105 e0)
  rw [hr]
  apply Array.ext'
  simp only [List.filterMap_map, Int.toNat_natCast, Array.toList_extract]
  apply List.ext_getElem?
  intro j
  have key : ∀ m, (List.range m).filterMap (fun j => its[k + j]?) = ((its.toList.drop k).take m) ∨ its.size < k + m := by
    intro m
    induction m with
    | zero => left; simp
    | succ m ih =>
      rcases ih with ih | ih
      · by_cases hlt : k + m < its.size
        · left
          rw [List.range_succ, List.filterMap_append, ih]
          have : its[k + m]? = some its[k + m] := by simp [hlt]
          simp only [List.filterMap_cons, this, List.filterMap_nil]
          rw [List.take_add_one]
          congr 1
          simp [hlt]
        · right; (exact om106 hlt)
      · right; (exact Nat.le_succ_of_le (by assumption))
  rcases key (its.size - k) with e | e
  · have : (fun j => its[k + j]?) = ((fun x => its[x]?) ∘ fun j => k + j) := rfl
    rw [← this, e]
  · (exact (om107 e0 e).elim)

theorem get_slice {Q : Value → Shared → Prop} (ha : s.heap.get? a = some (accObj d its n)) (hs : s.heap.get? sl = some (sliceObj vl .none .none)) (pl : IsPart vl lo) (hsz : its.size ≤ 100000)
    (h : Q (.ref s.heap.objs.size) { s with heap := s.heap.push (listObj (its.extract (cutAt its lo) its.size) 0) }) :
    wpAny (model PG w) A (Builtin.«list.__getitem__» ⟨[.ref a, .ref sl], []⟩) (fun fin s' => ∃ v, fin = .done (.ret v) ∧ Q v s') E s := by
  have hTs : s.TypeIs (.ref sl) "slice" := ⟨_, hs, rfl⟩
  show wpAny _ _ (Builtin.List.listSubscript? (.ref sl) >>= _) _ _ s
  refine wpAny_bind ?_
  unfold Builtin.List.listSubscript?
  refine wpAny_bind (wpAny_specialOf hTs slice_no_index ?_)
  simp only [Option.isNone_none, if_true]
  refine wpAny_pure ?_
  show wpAny _ _ (typeOf (.ref sl) >>= _) _ _ s
  refine wpAny_bind (wpAny_typeOf hTs ?_)
  rw [if_neg (by decide), listSliceParts_eq]
  refine wpAny_bind (wpAny_bind (wpAny_field hs rfl (x := .none) rfl (wpAny_bind (wpAny_listPart IsPart.none ?_))))
  rw [if_neg (by decide)]
  refine wpAny_bind (wpAny_field hs rfl (x := vl) rfl (wpAny_bind (wpAny_listPart pl ?_)))
  refine wpAny_bind (wpAny_field hs rfl (x := .none) rfl (wpAny_bind (wpAny_listPart IsPart.none (wpAny_pure ?_))))
  refine wpAny_bind (wpAny_listItems ha rfl ?_)
  refine wpAny_bind (wpAny_of_eq (sliceIndices_raw lo none none its.size (by simp)) ?_)
  have hz : (slicePick its lo none none).size ≤ sizeLine := Nat.le_trans (slicePick_size_le ..) (Nat.le_trans hsz (by decide))
  refine wpAny_bind (wpAny_newObj_type (wpAny_pure ⟨_, rfl, ?_⟩) hz)
  rw [← pick_from] at h
  exact h
end
end Mine
end

section
open PySem PySem.W PySem.Calls PyProof.Rows
set_option maxRecDepth 100000
set_option maxHeartbeats 8000000
namespace Mine
section
variable {w : World} {A : Around} {E : Value → Shared → Prop} {s : Shared} {a d : Addr} {its ys : Array Value} {n ny : Nat} {i : Int} {hh : Int} {tk t : Tok} {sl l : Addr} {vl : Value} {lo : Option Int}

theorem acc_tail {value slice : Expr} {j : Value} {ops : List Value} {Q : Value → Shared → Prop} (X : (KK w).In s.heap) (I : InstAt s.heap a (accObj d its n) 178 (some (accDict hh tk i t))) (hs : subscripted slice false (.ref a) j = operate ops (getItem (.ref a) j))
    (h : wpAny (model PG w) A.in1 (Builtin.«list.__getitem__» ⟨[.ref a, j], []⟩) (fun fin s' => ∃ v, fin = .done (.ret v) ∧ Q v s') E s) :
    wpAny (model PG w) A (subscriptTail value slice (.ref a) j) Q E s := by
  unfold subscriptTail getitemInPython
  have hf : findIn (KK w) (.ref 178) "__getitem__" = some (some (.builtin "list.__getitem__")) := by kernel_rfl
  refine wpAny_bind (wpAny_bind (wpAny_bind (I.type.here ((looks_findIn X hf).here ?_))))
  refine wpAny_pure ?_
  rw [hs]
  refine wpAny_bind (wpAny_operate' ?_)
  unfold getItem
  refine wpAny_holding (wpAny_bind (acc_seqKey X I ?_))
  refine wpAny_bind (acc_spec X I hf PySem.F.slot_list_getitem.bind ?_)
  refine call_bi (owner := "list") (n := "__getitem__") (by decide +kernel) (.inl (by decide +kernel)) (by decide +kernel) (inst_is (K := KK w) (C := 178) X I (by kernel_rfl)) PySem.F.entry_list_getitem (PySem.F.args_list_getitem_2 _ _) ?_
  refine wpAny_mono h (fun fin s' z => ?_) fun _ _ z => z
  obtain ⟨v, e, q⟩ := z
  exact ⟨v, e, wpAny_pure (wpAny_bind (wpAny_letTemporaryGo (wpAny_pure q)))⟩

theorem acc_setItem {j v : Value} {Q : Unit → Shared → Prop} (X : (KK w).In s.heap) (I : InstAt s.heap a (accObj d its n) 178 (some (accDict hh tk i t)))
    (h : wpAny (model PG w) A.in1 (Builtin.«list.__setitem__» ⟨[.ref a, j, v], []⟩) (fun fin s' => ∃ v, fin = .done (.ret v) ∧ Q () s') E s) :
    wpAny (model PG w) A (setItem (.ref a) j v) Q E s := by
  have hf : findIn (KK w) (.ref 178) "__setitem__" = some (some (.builtin "list.__setitem__")) := by kernel_rfl
  unfold setItem
  refine wpAny_holding (wpAny_bind (acc_seqKey X I ?_))
  refine wpAny_bind (acc_spec X I hf PySem.F.slot_list_setitem.bind ?_)
  refine call_bi (owner := "list") (n := "__setitem__") (by decide +kernel) (.inr (by decide +kernel)) (by decide +kernel) (inst_is (K := KK w) (C := 178) X I (by kernel_rfl)) PySem.F.entry_list_setitem (PySem.F.args_list_setitem_3 _ _ _) ?_
  refine wpAny_mono h (fun fin s' z => ?_) fun _ _ z => z
  obtain ⟨v, e, q⟩ := z
  exact ⟨v, e, wpAny_pure q⟩

theorem get_int {k : Int} {u : Tok} {v : Value} {Q : Value → Shared → Prop} (ha : s.heap.get? a = some (accObj d its n)) (h0 : 0 ≤ k) (h63 : k < 2 ^ 63) (hv : its[k.toNat]? = some v) (h : Q v s) :
    wpAny (model PG w) A (Builtin.«list.__getitem__» ⟨[.ref a, .int k u], []⟩) (fun fin s' => ∃ v, fin = .done (.ret v) ∧ Q v s') E s := by
  show wpAny _ _ (Builtin.List.listSubscript? (.int k u) >>= _) _ _ s
  refine wpAny_bind ?_
  unfold Builtin.List.listSubscript?
  refine wpAny_bind (wpAny_specialOf (T := "int") (typeIs_int s k u) int_index ?_)
  simp only [Option.isNone_some, Bool.false_eq_true, if_false]
  refine wpAny_bind (wpAny_of_eq (a := k) rfl ?_)
  have hfit : Builtin.List.listFitsIndex k = true := by
    unfold Builtin.List.listFitsIndex
    rw [Bool.and_eq_true]
    exact ⟨decide_eq_true (by (exact om108 h0 h63)), decide_eq_true h63⟩
  rw [hfit]
  refine wpAny_pure ?_
  obtain ⟨m, rfl⟩ := Int.eq_ofNat_of_zero_le h0
  dsimp only
  refine wpAny_bind ?_
  show wpAny _ _ (seqItemAt a m >>= _) _ _ s
  unfold seqItemAt
  refine wpAny_bind (wpAny_bind (wpAny_loadPart ha ?_))
  refine wpAny_pure (wpAny_pure ?_)
  have hv' : its[m]? = some v := hv
  rw [hv']
  exact wpAny_pure ⟨v, rfl, h⟩

theorem cut_nat {k : Nat} (hk : k ≤ its.size) : cutAt its (some (k : Int)) = k := by
  unfold cutAt sliceBounds
  simp only [Option.getD_none]
  simp only [show ((1 : Int) > 0) = True from by simp, if_true]
  lia
theorem cut_none : cutAt its none = 0 := by
  unfold cutAt sliceBounds
  simp
theorem pop_from_ok {k : Nat} {u : Tok} {Q : Value → Shared → Prop} (O : Ok w s) (hroom : A.depth < recursionLimit) (Y : AccAt s.heap a d its n i) (hsz : its.size ≤ 100000) (hk : k ≤ its.size)
    (h : ∀ s' l n', Ok w s' → St [a] s s' → AccAt s'.heap a d (its.extract 0 k) n' i → s'.heap.get? l = some (listObj (its.extract k its.size) 0) → (s.heap.objs.size : Nat) < l → Q (.ref l) s') :
    wpAny (model PG w) A (call (.ref 130) [.ref a, .int k u]) Q E s := by
  have hne := Y.ne
  obtain ⟨la, ld, oa, hh, tk, t, od⟩ := Y
  refine c_enter (binds := [("self", .ref a), ("i", .int k u)]) [(a, accObj d its n)] O hroom (own1 la oa) (fun g L s₁ c => ?_) (hbind := BindsTo.of_defaults rfl (O.gd.look (by k_is) rfl) rfl rfl rfl)
  have gd : g.get? d = some (accDict hh tk i t) := c.B.all d _ (by simp [hne]) (not_tab ld) od
  have I : ∀ {m news s' its n}, Cx w g [a] s L m news s' → (a, accObj d its n) ∈ news → InstAt s'.heap a (accObj d its n) 178 (some (accDict hh tk i t)) := fun c q => accI (c.get q) (c.base gd)
  refine wpAny_execs_cons (wpAny_Assign_Name (Subscript_ (c_name c rfl (wpAny_Slice (wpAny_evalPart_some (c_name c rfl (wpAny_evalPart_none (wpAny_evalPart_none ?_))))))))
  have c₂ := Cx.new (a := s₁.heap.objs.size) (o := sliceObj (.int k u) .none .none) (c.ext (s' := { s₁ with heap := s₁.heap.push (sliceObj (.int k u) .none .none) }) (fun _ _ e => Heap.get?_push_of_some _ e) rfl rfl) (Heap.get?_push_size _ rfl) c.lt
  refine acc_tail (ops := [.ref s₁.heap.objs.size, .ref a]) c₂.X (I c₂ (.tail _ (.head _))) rfl ?_
  refine get_slice (c₂.get (.tail _ (.head _))) (c₂.get (.head _)) (IsPart.int k u) hsz ?_
  rw [cut_nat hk]
  generalize hs₂ : ({ s₁ with heap := s₁.heap.push (sliceObj (.int k u) .none .none) } : Shared) = s₂ at c₂ ⊢
  have c₃ := Cx.new (a := s₂.heap.objs.size) (o := listObj (its.extract k its.size) 0) (c₂.ext (s' := { s₂ with heap := s₂.heap.push (listObj (its.extract k its.size) 0) }) (fun _ _ e => Heap.get?_push_of_some _ e) rfl rfl) (Heap.get?_push_size _ rfl) c₂.lt
  have l₃ := c₂.lt
  have hs₁ : s₁.heap.objs.size < s₂.heap.objs.size := by rw [← hs₂]; exact Nat.lt_of_lt_of_eq (Nat.lt_succ_self _) (Heap.size_push _ _).symm
  generalize s₂.heap.objs.size = l at c₃ l₃ hs₁ ⊢
  refine c_store c₃ fun s₄ c₄ => ?_
  refine wpAny_execs_cons (wpAny_Assign_Subscript (List_ (spliced_none (c_list c₄ fun s₅ e c₅ he => ?_))))
  refine c_name c₅ rfl ?_
  refine wpAny_Slice (wpAny_evalPart_some (c_name c₅ rfl (wpAny_evalPart_none (wpAny_evalPart_none ?_))))
  have c₆ := Cx.new (a := s₅.heap.objs.size) (o := sliceObj (.int k u) .none .none) (c₅.ext (s' := { s₅ with heap := s₅.heap.push (sliceObj (.int k u) .none .none) }) (fun _ _ e => Heap.get?_push_of_some _ e) rfl rfl) (Heap.get?_push_size _ rfl) c₅.lt
  refine acc_setItem c₆.X (I c₆ (.tail _ (.tail _ (.tail _ (.tail _ (.head _)))))) ?_
  refine set_slice (lo := some (k : Int)) (c₆.get (.tail _ (.tail _ (.tail _ (.tail _ (.head _)))))) (c₆.get (.head _)) (IsPart.int k u) (c₆.get (.tail _ (.head _))) (by simpa using hsz) fun s₇ n₇ hs₇ e₇ hg₇ ho₇ => ?_
  have hal : l ≠ a := fun q => absurd (Heap.lt_size oa) (by rw [← q]; exact Nat.lt_asymm l₃)
  have c₇ := (c₆.drop (news' := [(l, listObj (its.extract k its.size) 0), (a, accObj d its n)]) (fun p hp => .tail _ (.tail _ (by cases hp with | head => exact .head _ | tail _ hp => exact .tail _ (.tail _ hp))))).upd (Upd.tail hal (Upd.head (fun _ h => nomatch h))) la hs₇ e₇ hg₇ ho₇
  refine wpAny_execs_cons (wpAny_Return_some (c_name c₇ rfl ?_))
  have hc : its.extract 0 (cutAt its (some (k : Int))) ++ #[] = its.extract 0 k := by rw [cut_nat hk]; simp
  refine h s₇ l n₇ c₇.ok c₇.st ⟨la, ld, ?_, hh, tk, t, c₇.base gd⟩ (c₇.get (.head _)) l₃
  rw [← hc]; exact e₇
end
end Mine
end

section
open PySem PySem.W PySem.Calls PyProof.Rows Builtin Builtin.ObjectAttr
set_option maxRecDepth 100000
set_option maxHeartbeats 8000000
namespace Mine
theorem refuse_list (self : Value) : refuseLoop self "__setattr__" [.ref 178, .type "list", .type "object"] = pure () := by
  rw [refuseLoop_ref]
  have h : builtinOwn "list" "__setattr__" = none := by rw [builtinOwn_eq_fast]; decide +kernel
  have : refuseLoop self "__setattr__" [.type "list", .type "object"] = refuseLoop self "__setattr__" [.type "object"] := by
    conv => lhs; unfold refuseLoop
    simp only [List.forIn_cons, classOwn, h]
    rw [if_neg (by decide), if_neg (by decide)]
    rfl
  rw [this]
  exact PySem.F.store_object.passes self
section
variable {w : World} {A : Around} {E : Value → Shared → Prop} {s : Shared} {a d : Addr} {its : Array Value} {n : Nat} {hh : Int} {tk t : Tok} {es : List DictEntry} {k : Nat}
theorem acc_setAttr {v : Value} {Q : Unit → Shared → Prop} (X : (KK w).In s.heap) (ha : s.heap.get? a = some (accObj d its n)) (hd : s.heap.get? d = some (dictOf es k)) (hl : (lookIn "_initial_size" (dictOf es k)).isSome = true)
    {es' : List DictEntry} {k' : Nat} (e : Obj.putName "_initial_size" (PyData.keyHash w.params "_initial_size") (.str "_initial_size" (s.toks + 1)) v (dictOf es k) = dictOf es' k') (hz : es'.length ≤ 1000)
    (h : ∀ s', Heap.SameBut d s.heap s'.heap → s'.heap.get? d = some (dictOf es' k') → s'.gens = s.gens → s'.os = s.os → Q () s') :
    wpAny (model PG w) A (setAttr (.ref a) "_initial_size" v) Q E s := by
  have I : InstAt s.heap a (accObj d its n) 178 (some (dictOf es k)) := ⟨ha, rfl, rfl, hd⟩
  have SF := PySem.F.store_object
  refine set_plain (K := KK w) X I (by kernel_rfl) ?_
  have sub : Looks (model PG w) s.heap (isInstance (.ref a) (.type "object")) true := I.type.andThen (looks_subIn X (by kernel_rfl))
  refine codeAny_call_builtin SF.slot.plain SF.entry (@check_slot (model PG w) _ _ { s with toks := s.toks + 1 } "object.__setattr__" "object" "__setattr__" (.ref a) [.str "_initial_size" s.toks, v] [] _ SF.kind SF.split sub (SF.args (.ref a) (.str "_initial_size" s.toks) v) ?_)
  have hm := looks_mro200 (prog := PG) X
  rw [osa_eq, refuse_eq]
  obtain ⟨hp, g, dd, tt, os⟩ := s
  refine wpAny_bind (wpAny_bind (I.type.at (wpAny_bind (hm.at ?_))))
  rw [refuse_list]
  have hf : findIn (KK w) (.ref 178) "_initial_size" = some none := by kernel_rfl
  refine wpAny_pure (wpAny_bind (I.type.at (wpAny_bind ((looks_findIn X hf).at (wpAny_bind (wpAny_pure ?_))))))
  dsimp only
  have hcd : (clsIn (KK w) 178).map (·.hasDict) = some true := by kernel_rfl
  cases hc : clsIn (KK w) 178 with
  | none => rw [hc] at hcd; cases hcd
  | some cd =>
    rw [hc] at hcd
    have hd' : cd.hasDict = true := Option.some.inj hcd
    have D' := Heap.get?_update_self (h := hp) (Obj.putName "_initial_size" (PyData.keyHash w.params "_initial_size") (.str "_initial_size" (tt + 1)) v) hd (by rw [e]; rfl)
    refine wpAny_bind (wpAny_pure (wpAny_bind (wpAny_bind (wpAny_loadPart ha (wpAny_bind ((looks_clsIn X hc).at ?_))))))
    rw [hd']
    refine wpAny_pure (a := some d) (wpAny_bind (wpAny_pure (wpAny_bind ?_)))
    unfold nsSet
    refine wpAny_bind (wpAny_bind (wpAny_askSetting (wpAny_pure (wpAny_bind (wpAny_mkText (wpAny_bind (wpAny_loadPart hd ?_)))))))
    have c : (!es.toArray.any (·.key.isStr "_initial_size") && es.toArray.any (·.refKey)) = false := by
      unfold lookIn at hl
      dsimp only at hl
      rw [← Array.any_toList, ← Array.any_toList]
      split at hl
      · rename_i en he
        rw [List.any_eq_true.mpr ⟨en, List.mem_of_find?_eq_some he, List.find?_some he⟩]; rfl
      · split at hl
        · cases hl
        · rename_i z; rw [Bool.not_eq_true] at z; rw [z, Bool.and_false]
    dsimp only
    rw [aRefKeyMayBeTheName_at, c]
    refine wpAny_updatePart hd ?_
    rw [e] at D'
    refine wpAny_bind (wpAny_lookBehind D' (pastItsLine_dict (by rw [List.size_toArray, sizeLine_eq]; (exact om86 hz))) ?_)
    exact wpAny_pure (h _ (Heap.SameBut.update ..) D' rfl rfl)
end
end Mine
end

section
open PySem PySem.W PySem.Calls PyProof.Rows
set_option maxRecDepth 100000
set_option maxHeartbeats 8000000
namespace Mine
theorem own2 {a b : Addr} {o o' : Obj} {s : Shared} (la : (221 : Nat) ≤ a) (oa : s.heap.get? a = some o) (lb : (221 : Nat) ≤ b) (ob : s.heap.get? b = some o') : ∀ p ∈ [(a, o), (b, o')], (221 : Nat) ≤ p.1 ∧ s.heap.get? p.1 = some p.2 := fun p hp => by
  cases hp with | head => exact ⟨la, oa⟩ | tail _ hp => cases hp with | head => exact ⟨lb, ob⟩ | tail _ h => cases h
section
variable {w : World} {A : Around} {E : Value → Shared → Prop} {s : Shared} {a d : Addr} {its ys : Array Value} {n ny : Nat} {i : Int} {l : Addr} {u : Tok} {Q : Value → Shared → Prop}
theorem put_init {hh : Int} {tk t : Tok} {k : Int} {v : Value} {tt : Tok} : Obj.putName "_initial_size" k (.str "_initial_size" tt) v (accDict hh tk i t) = dictOf [⟨hh, .str (Str.ofString "_initial_size") tk, v⟩] 1 := by rfl

theorem reset_ok (O : Ok w s) (hroom : A.depth < recursionLimit) (Y : AccAt s.heap a d its n i) (ll : (221 : Nat) ≤ l) (ol : s.heap.get? l = some (listObj ys ny)) (hsz : its.size + ys.size ≤ 100000)
    (h : ∀ s' n', Ok w s' → St [a, d] s s' → AccAt s'.heap a d ys n' 0 → Q .none s') :
    wpAny (model PG w) A (call (.ref 160) [.ref a, .ref l]) Q E s := by
  have hne := Y.ne
  obtain ⟨la, ld, oa, hh, tk, t, od⟩ := Y
  have hla : l ≠ a := fun e => by rw [e, oa] at ol; cases ol
  have hld : l ≠ d := fun e => by rw [e, od] at ol; have := congrArg (fun o => o.map Obj.data) ol; cases this
  refine c_enter (binds := [("self", .ref a), ("startval", .ref l)]) [(a, accObj d its n), (d, accDict hh tk i t)] O hroom (own2 la oa ld od) (fun g L s₁ c => ?_) (hbind := BindsTo.of_defaults rfl (O.gd.look (by k_is) rfl) rfl rfl rfl)
  have gl : g.get? l = some (listObj ys ny) := c.B.all l _ (by simp [hla, hld]) (not_tab ll) ol
  refine wpAny_execs_cons (wpAny_If (wpAny_isTrue_Compare1 (c_name c rfl ?_)))
  refine wpAny_Constant_none ?_
  refine is_ref_none (wpAny_truthy_bool ?_)
  rw [if_neg (by decide)]
  refine wpAny_execs_nil ?_
  refine wpAny_execs_cons (wpAny_Assign_Subscript (c_name c rfl (c_name c rfl ?_)))
  refine wpAny_Slice (wpAny_evalPart_none (wpAny_evalPart_none (wpAny_evalPart_none ?_)))
  have c₂ := Cx.new (a := s₁.heap.objs.size) (o := sliceObj .none .none .none) (c.ext (s' := { s₁ with heap := s₁.heap.push (sliceObj .none .none .none) }) (fun _ _ e => Heap.get?_push_of_some _ e) rfl rfl) (Heap.get?_push_size _ rfl) c.lt
  refine acc_setItem c₂.X (accI (c₂.get (.tail _ (.head _))) (c₂.get (.tail _ (.tail _ (.head _))))) ?_
  refine set_slice (lo := none) (c₂.get (.tail _ (.head _))) (c₂.get (.head _)) IsPart.none (c₂.base gl) hsz fun s₃ n₃ hs₃ e₃ hg₃ ho₃ => ?_
  have hc : its.extract 0 (cutAt its none) ++ ys = ys := by rw [cut_none]; simp
  rw [hc] at e₃
  have c₃ := (c₂.drop (news' := [(a, accObj d its n), (d, accDict hh tk i t)]) (fun p hp => .tail _ hp)).upd (Upd.head (fun p hp => by cases hp with | head => exact hne | tail _ h => cases h)) la hs₃ e₃ hg₃ ho₃
  refine wpAny_execs_cons (plainObj_wpAny_Assign_Attribute (c_int c₃ fun s₄ t₄ c₄ => c_name c₄ rfl ?_))
  refine acc_setAttr c₄.X (c₄.get (.head _)) (c₄.get (.tail _ (.head _))) rfl put_init (by simp) fun s₅ hs₅ e₅ hg₅ ho₅ => ?_
  have c₅ := c₄.upd (Upd.tail (Ne.symm hne) (Upd.head (fun _ h => nomatch h))) ld hs₅ e₅ hg₅ ho₅
  refine wpAny_execs_nil ?_
  exact h s₅ n₃ c₅.ok c₅.st ⟨la, ld, c₅.get (.head _), hh, tk, t₄, e₅⟩

theorem reset0_ok (O : Ok w s) (hroom : A.depth < recursionLimit) (Y : AccAt s.heap a d its n i) (hsz : its.size ≤ 100000)
    (h : ∀ s' n', Ok w s' → St [a, d] s s' → AccAt s'.heap a d #[] n' 0 → Q .none s') :
    wpAny (model PG w) A (call (.ref 160) [.ref a]) Q E s := by
  have hne := Y.ne
  obtain ⟨la, ld, oa, hh, tk, t, od⟩ := Y
  refine c_enter (binds := [("self", .ref a), ("startval", .none)]) [(a, accObj d its n), (d, accDict hh tk i t)] O hroom (own2 la oa ld od) (fun g L s₁ c => ?_) (hbind := BindsTo.of_defaults rfl (O.gd.look (by k_is) rfl) rfl rfl rfl)
  refine wpAny_execs_cons (wpAny_If (wpAny_isTrue_Compare1 (c_name c rfl ?_)))
  refine wpAny_Constant_none ?_
  refine is_none_none (wpAny_truthy_bool ?_)
  rw [if_pos (by decide)]
  refine wpAny_execs_cons (wpAny_Assign_Name (List_ (spliced_none (c_list c fun s₂ l c₂ hl => ?_))))
  refine c_store c₂ fun s₃ c₃ => ?_
  refine wpAny_execs_nil ?_
  refine wpAny_execs_cons (wpAny_Assign_Subscript (c_name c₃ rfl (c_name c₃ rfl ?_)))
  refine wpAny_Slice (wpAny_evalPart_none (wpAny_evalPart_none (wpAny_evalPart_none ?_)))
  have c₄ := Cx.new (a := s₃.heap.objs.size) (o := sliceObj .none .none .none) (c₃.ext (s' := { s₃ with heap := s₃.heap.push (sliceObj .none .none .none) }) (fun _ _ e => Heap.get?_push_of_some _ e) rfl rfl) (Heap.get?_push_size _ rfl) c₃.lt
  refine acc_setItem c₄.X (accI (c₄.get (.tail _ (.tail _ (.head _)))) (c₄.get (.tail _ (.tail _ (.tail _ (.head _)))))) ?_
  refine set_slice (lo := none) (c₄.get (.tail _ (.tail _ (.head _)))) (c₄.get (.head _)) IsPart.none (c₄.get (.tail _ (.head _))) (by simpa using hsz) fun s₅ n₅ hs₅ e₅ hg₅ ho₅ => ?_
  have hc : its.extract 0 (cutAt its none) ++ #[] = #[] := by rw [cut_none]; simp
  rw [hc] at e₅
  have c₅ := (c₄.drop (news' := [(a, accObj d its n), (d, accDict hh tk i t)]) (fun p hp => .tail _ (.tail _ hp))).upd (Upd.head (fun p hp => by cases hp with | head => exact hne | tail _ h => cases h)) la hs₅ e₅ hg₅ ho₅
  refine wpAny_execs_cons (plainObj_wpAny_Assign_Attribute (c_int c₅ fun s₆ t₆ c₆ => c_name c₆ rfl ?_))
  refine acc_setAttr c₆.X (c₆.get (.head _)) (c₆.get (.tail _ (.head _))) rfl put_init (by simp) fun s₇ hs₇ e₇ hg₇ ho₇ => ?_
  have c₇ := c₆.upd (Upd.tail (Ne.symm hne) (Upd.head (fun _ h => nomatch h))) ld hs₇ e₇ hg₇ ho₇
  refine wpAny_execs_nil ?_
  exact h s₇ n₅ c₇.ok c₇.st ⟨la, ld, c₇.get (.head _), hh, tk, t₆, e₇⟩

theorem pop0_ok (O : Ok w s) (hroom : A.depth + 1 < recursionLimit) (Y : AccAt s.heap a d #[] n i)
    (h : ∀ s' x t1 t2, Ok w s' → St [] s s' → s'.heap.get? x = some (tupObj #[.str (Str.ofString "") t1, .str (Str.ofString "") t2]) → (s.heap.objs.size : Nat) < x → Q (.ref x) s') :
    wpAny (model PG w) A (call (.ref 138) [.ref a]) Q E s := by
  obtain ⟨la, ld, oa, hh, tk, t, od⟩ := Y
  refine c_enterS (binds := [("self", .ref a)]) [] O (Nat.lt_of_succ_lt hroom) no_own fun g L s₁ c => ?_
  have gd : g.get? d = some (accDict hh tk i t) := c.B.all d _ (fun h => nomatch h) (not_tab ld) od
  have ga : g.get? a = some (accObj d #[] n) := c.B.all a _ (fun h => nomatch h) (not_tab la) oa
  refine ks_wpAt_execs_cons (ks_wpAt_If (wpAt_of_wpAny (wpAny_isTrue_Compare1 (MethodCall_ (c_name c rfl ?_)))))
  refine acc_meth (f := 175) c.X (accI (c.base ga) (c.base gd)) ?_
  refine callWith_K0 (K := KK w) c.X (by kernel_rfl) ?_
  refine part_count_ok c.ok hroom ⟨la, ld, c.base ga, hh, tk, t, c.base gd⟩ fun s₂ t₂ O₂ S₂ => ?_
  have c₂ := c.call0 S₂ O₂
  refine c_int c₂ fun s₃ t₃ c₃ => ?_
  refine eq_int (wpAny_truthy_bool ?_)
  rw [if_pos (by decide)]
  refine wpAt_of_wpAny (wpAny_execs_cons (wpAny_Return_some (Tuple_ (spliced_more (c_str c₃ fun s₄ t1 c₄ => spliced_more (c_str c₄ fun s₅ t2 c₅ => spliced_none ?_))))))
  refine c_tuple c₅ fun s₆ x c₆ hx => ?_
  exact h s₆ x t1 t2 c₆.ok c₆.st (c₆.get (.head _)) (hx ▸ c₅.lt)
end
end Mine
end

section
open PySem PySem.W PySem.Calls PyProof.Rows
set_option maxRecDepth 100000
set_option maxHeartbeats 8000000
namespace Mine
noncomputable def Pair (h : Heap) (v : Value) (p : Str × Str) : Prop := ∃ T t1 t2, v = .ref T ∧ (221 : Nat) ≤ T ∧ h.get? T = some (tupObj #[.str p.1 t1, .str p.2 t2])
structure PairsAt (h : Heap) (its : Array Value) (ps : List (Str × Str)) : Prop where
  size : its.size = ps.length
  at_ : ∀ (j : Nat) p, ps[j]? = some p → ∃ v, its[j]? = some v ∧ Pair h v p
noncomputable def refsOf : List Value → List Addr
  | [] => []
  | .ref a :: r => a :: refsOf r
  | _ :: r => refsOf r
theorem mem_refs {l : List Value} {T : Addr} (h : Value.ref T ∈ l) : T ∈ refsOf l := by
  induction l with
  | nil => cases h
  | cons x r ih =>
    cases h with
    | head => exact .head _
    | tail _ h => cases x <;> first | exact ih h | exact .tail _ (ih h)
theorem PairsAt.of {h h' : Heap} {its : Array Value} {ps : List (Str × Str)} (P : PairsAt h its ps) (k : ∀ b ∈ refsOf its.toList, ∀ o, h.get? b = some o → h'.get? b = some o) : PairsAt h' its ps := by
  refine ⟨P.size, fun j p hp => ?_⟩
  obtain ⟨v, hv, T, t1, t2, rfl, hT, e⟩ := P.at_ j p hp
  exact ⟨_, hv, T, t1, t2, rfl, hT, k T (mem_refs (by rw [← Array.getElem?_toList] at hv; exact List.mem_of_getElem? hv)) _ e⟩
theorem PairsAt.keeps {h h' : Heap} {its : Array Value} {ps : List (Str × Str)} (P : PairsAt h its ps) (k : ∀ b o, h.get? b = some o → h'.get? b = some o) : PairsAt h' its ps := P.of fun b _ o e => k b o e

section
variable {prog : Program} {w : World} {A : Around} {E : Value → Shared → Prop} {s : Shared} {a d it : Addr} {its : Array Value} {n k : Nat} {i : Int}
theorem next_item {x : Value} {Q : Option Value → Shared → Prop} (hit : s.heap.IsListIter it a k) (ha : s.heap.get? a = some (accObj d its n)) (hx : its[k]? = some x)
    (hQ : ∀ h', h'.IsListIter it a (k + 1) → Heap.SameBut it s.heap h' → Q (some x) { s with heap := h' }) : wpAny (model prog w) A (pyNext (.ref it)) Q E s := by
  obtain ⟨o, ho, hc, hd⟩ := id hit
  unfold pyNext
  refine wpAny_bind (wpAny_attempt (wpAny_callSpecial?_slot (name := Str.ofString "__next__") hit.typeIs slot_listiter_next
    (wpAny_call_entry slot_listiter_next hit.typeIs entry_listiter_next ?_ (args_listiter_next _))))
  show wpAny _ _ (field (.ref it) 0 >>= _) _ _ s
  refine wpAny_bind (wpAny_field ho hd (x := .ref a) rfl ?_)
  show wpAny _ _ (if (Value.ref a == Value.none) = true then _ else _) _ _ s
  rw [if_neg (show ¬ ((Value.ref a == Value.none) = true) from Bool.false_ne_true)]
  show wpAny _ _ (field (.ref it) 1 >>= _) _ _ s
  refine wpAny_bind (wpAny_field ho hd (x := .int k 0) rfl ?_)
  show wpAny _ _ (seqItems? (.ref a) >>= _) _ _ s
  refine wpAny_bind (wpAny_seqItems ha rfl ?_)
  simp only [Int.toNat_natCast, hx]
  refine wpAny_bind (wpAny_setField ho hd (by simp) (wpAny_pure ⟨x, rfl, wpAny_pure (hQ _ ?_ (Heap.SameBut.update ..))⟩))
  exact ⟨_, Heap.get?_update_self _ ho (Obj.isFreed_of_fields (Obj.data_mapFields hd _)), (Obj.cls_mapFields ..).trans hc, by
    rw [Obj.data_mapFields hd]; simp [rawInt]⟩
theorem next_end {Q : Option Value → Shared → Prop} (hh : A.handled = none) (hit : s.heap.IsListIter it a k) (ha : s.heap.get? a = some (accObj d its n)) (hx : its[k]? = none)
    (hQ : ∀ h', Heap.ExtBut it s.heap h' → Q none { s with heap := h' }) : wpAny (model prog w) A (pyNext (.ref it)) Q E s := by
  obtain ⟨o, ho, hc, hd⟩ := id hit
  unfold pyNext
  refine wpAny_bind (wpAny_attempt (wpAny_callSpecial?_slot (name := Str.ofString "__next__") hit.typeIs slot_listiter_next
    (wpAny_call_entry slot_listiter_next hit.typeIs entry_listiter_next ?_ (args_listiter_next _))))
  show wpAny _ _ (field (.ref it) 0 >>= _) _ _ s
  refine wpAny_bind (wpAny_field ho hd (x := .ref a) rfl ?_)
  show wpAny _ _ (if (Value.ref a == Value.none) = true then _ else _) _ _ s
  rw [if_neg (show ¬ ((Value.ref a == Value.none) = true) from Bool.false_ne_true)]
  show wpAny _ _ (field (.ref it) 1 >>= _) _ _ s
  refine wpAny_bind (wpAny_field ho hd (x := .int k 0) rfl ?_)
  show wpAny _ _ (seqItems? (.ref a) >>= _) _ _ s
  refine wpAny_bind (wpAny_seqItems ha rfl ?_)
  simp only [Int.toNat_natCast, hx]
  refine wpAny_bind (wpAny_rule (wpAny_bind (wpAny_setField ho hd (by simp) ?_)))
  show wpAny _ _ (newExc (.type "StopIteration") [] >>= _) _ _ _
  refine wpAny_bind ?_
  simp only [newExc, newTuple]
  refine wpAny_bind (wpAny_newObj_type ?_ (by size_fits))
  refine wpAny_bind (m := firstArgMember _ _) (wpAny_of_eq (a := Value.none) (by first | rfl | (simp only [firstArgMember]; rfl)) ?_)
  refine wpAny_newObj_type ?_ (by size_fits)
  simp only [raiseNew]
  refine wpAny_bind (wpAny_handled ?_)
  rw [show A.in1.handled = none from hh]
  refine wpAny_bind (wpAny_pure (wpAny_throw ?_))
  refine wpAny_bind (wpAny_isInstance (T := "StopIteration") (b := true) ⟨_, Heap.get?_push_size _ rfl, rfl⟩ isSubtype_stop ?_)
  exact wpAny_pure (hQ _ (((Heap.SameBut.update ..).extBut.push _).push _))

noncomputable def AccSt (it a d : Addr) (its : Array Value) (n : Nat) (ps : List (Str × Str)) (i : Nat) (h : Heap) : Prop := h.IsListIter it a i ∧ h.get? a = some (accObj d its n) ∧ PairsAt h its ps

theorem acc_walks {ps : List (Str × Str)} (hh : A.handled = none) (hia : a ≠ it) (hir : it ∉ refsOf its.toList) :
    WalksU prog w A it (it :: a :: refsOf its.toList) [it] ps.length (fun j vals => ∃ p t1 t2, ps[j]? = some p ∧ vals = #[.str p.1 t1, .str p.2 t2]) (AccSt it a d its n ps)
      (fun j T h => AccSt it a d its n ps (j + 1) h ∧ T ∈ refsOf its.toList) where
  sub := fun b hb => by rw [List.mem_singleton] at hb; subst hb; exact .head _
  frame := fun j h h' st hk => ⟨st.1.at fun o e => hk it (.head _) o e, hk a (.tail _ (.head _)) _ st.2.1, st.2.2.of fun b hb o e => hk b (.tail _ (.tail _ hb)) o e⟩
  item := fun j s Q E hj st hQ => by
    obtain ⟨v, hv, T, t1, t2, rfl, hT, e⟩ := st.2.2.at_ j _ (List.getElem?_eq_getElem hj)
    have hm : T ∈ refsOf its.toList := mem_refs (by rw [← Array.getElem?_toList] at hv; exact List.mem_of_getElem? hv)
    have hne : ∀ b ∈ refsOf its.toList, b ≠ it := fun b hb q => hir (q ▸ hb)
    refine next_item st.1 st.2.1 hv fun h' hit' hs' => ?_
    refine hQ T _ h' s.toks ⟨_, t1, t2, List.getElem?_eq_getElem hj, rfl⟩ ⟨_, hs'.extBut T _ (hne T hm) e, rfl, 0, rfl⟩ ⟨⟨hit', hs'.extBut a _ hia st.2.1, st.2.2.of fun b hb o e => hs'.extBut b o (hne b hb) e⟩, hm⟩ fun b o hb e => hs'.extBut b o (fun q => hb (by rw [q]; exact .head _)) e
  go := fun elts kk pos j T s Q E hm hQ => by
    obtain ⟨⟨hit, ha, hP⟩, hT⟩ := hm
    obtain ⟨o, ho, hc, hd⟩ := id hit
    show wpAny _ _ (do
      let o ← load it
      match o.cls, o.data with
      | .type n, .fields vs =>
        if ["enumerate", "zip", "dict_itemiterator", "dict_reverseitemiterator", "odict_iterator", "itertools.zip_longest", "itertools.pairwise"].contains n && vs[0]? == some (rawInt T) then
          rule "for.unpacks-the-owned-tuple"
          updateField it 0 .none
      | _, _ => pure ()) _ _ _
    refine wpAny_bind (wpAny_load ho ?_)
    rw [hc, hd]
    dsimp only
    rw [if_neg (by simp)]
    exact wpAny_pure (hQ s.heap ⟨hit, ha, hP⟩ fun _ _ _ e => e)
  apart := fun j T h hm => by
    intro q
    rw [List.mem_singleton] at q
    exact hir (q ▸ hm.2)
  done := fun s Q E st hQ => next_end hh st.1 st.2.1 (by rw [← st.2.2.size]; simp) fun h' he' => hQ h' s.toks fun b o hb e => he' b o (fun q => hb (by rw [q]; exact .head _)) e
  self := fun _ _ _ _ st hQ => wpAny_pyIter_listiter st.1 hQ
end
end Mine
end

section
open PySem PySem.W PySem.Calls PyProof.Rows
set_option maxRecDepth 100000
set_option maxHeartbeats 8000000
namespace Mine
section
variable {prog : Program} {w : World} {A : Around} {E : Value → Shared → Prop} {s : Shared} {a d it : Addr} {its : Array Value} {n : Nat} {od : Option Obj}
theorem acc_iter {Q : Value → Shared → Prop} (X : (KK w).In s.heap) (I : InstAt s.heap a (accObj d its n) 178 od)
    (h : Q (.ref s.heap.objs.size) { s with heap := s.heap.push { cls := .type "list_iterator", data := .fields #[.ref a, .int 0 0] } }) : wpAny (model prog w) A (pyIter (.ref a)) Q E s := by
  have L1 := looks_findIn (M := model prog w) X (K := KK w) (t := .ref 178) (name := "__iter__") (r := some (.builtin "list.__iter__")) (by kernel_rfl)
  unfold pyIter specialOf
  refine wpAny_bind (wpAny_bind (I.type.here (L1.here ?_)))
  dsimp only
  simp only [callSpecialIfBoundUnlessNone?, bindSpecialIfBound?]
  refine wpAny_bind (wpAny_holding (wpAny_bind (wpAny_bind (m := specialOf _ _) ?_)))
  refine wpAny_bind (I.type.here (L1.here ?_))
  simp only [slot_list_iter.bind]
  refine wpAny_bind (wpAny_askSetting (wpAny_ite ?_))
  have fin : ∀ {Q' : Value → Shared → Prop} {E'}, (∀ s', s' = { s with heap := s.heap.push { cls := .type "list_iterator", data := .fields #[.ref a, .int 0 0] } } → Q' (.ref s.heap.objs.size) s') → wpAny (model prog w) A (call (.builtin "list.__iter__") [.ref a]) Q' E' s := by
    intro Q' E' hq
    refine call_bi (owner := "list") (n := "__iter__") (by decide +kernel) (.inr (by decide +kernel)) (by decide +kernel) (inst_is (K := KK w) (C := 178) X I (by kernel_rfl)) entry_list_iter (args_list_iter _) ?_
    show wpAny _ _ (do ret (← newFields "list_iterator" [.ref a, rawInt 0])) _ _ s
    exact wpAny_bind (wpAny_newObj_type (wpAny_pure ⟨_, rfl, hq _ rfl⟩))
  have fin2 : wpAny (model prog w) A (if (Value.builtin "list.__iter__" == Value.none) = true then ((do rule "iter.none"; raiseError "TypeError" s!"'{← typeNameOf (.ref a)}' object is not iterable" : Sem Value) >>= fun v => pure (some v)) else (call (.builtin "list.__iter__") [.ref a] >>= fun v => pure (some v)))
      (fun r s' => r = some (.ref s.heap.objs.size) ∧ s' = { s with heap := s.heap.push { cls := .type "list_iterator", data := .fields #[.ref a, .int 0 0] } }) E s := by
    simp only [builtin_beq_none, Bool.false_eq_true, if_false]
    exact wpAny_bind (fin fun s' e => wpAny_pure ⟨rfl, e⟩)
  have post : ∀ (r : Option Value) s', (r = some (.ref s.heap.objs.size) ∧ s' = { s with heap := s.heap.push { cls := .type "list_iterator", data := .fields #[.ref a, .int 0 0] } }) → wpAny (model prog w) A (match r with
      | some it => do
        match ← specialOf it "__next__" with
        | none => rule "iter.non-iterator"; raiseError "TypeError" s!"iter() returned non-iterator of type '{← typeNameOf it}'"
        | some _ => pure it
      | none => do
        match ← bindSpecialIfBound? (.ref a) "__getitem__" with
        | none => rule "iter.not-iterable"; raiseError "TypeError" s!"'{← typeNameOf (.ref a)}' object is not iterable"
        | some _ => rule "iter.getitem-fallback"; newFields "iterator" [.ref a, ← mkInt 0]) Q E s' := by
    rintro r s' ⟨rfl, rfl⟩
    exact wpAny_bind (wpAny_specialOf (T := "list_iterator") ⟨_, Heap.get?_push_size _ rfl, rfl⟩ slot_listiter_next.lookup (wpAny_pure h))
  split
  · exact wpAny_bind (wpAny_pure (wpAny_pure (wpAny_mono fin2 post fun _ _ e => e)))
  · exact wpAny_tryCatch (wpAny_bind (wpAny_pure (wpAny_pure (wpAny_mono fin2 post fun _ _ e => e))))

theorem bfor {r : Addr} {Q : Addr → Shared → Prop} (X : (KK w).In s.heap) (h : Q builtinsNs s) : wpAny (model prog w) A (builtinsFor mainGlobals r) Q E s := by
  have ho : (KK w).lookup 4 = some ⟨.type "module", some builtinsNs, .plain, #[]⟩ := by kernel_rfl
  unfold builtinsFor
  refine wpAny_bind ((looks_nsIn X (r := some (.ref 4)) (by kernel_rfl)).here ?_)
  show wpAny _ A (if ((4 : Addr) == builtinsNs) = true then _ else _) Q E s
  rw [if_neg (by decide)]
  exact wpAny_bind (wpAny_load (X _ _ ho) (wpAny_pure h))
end
section
variable {prog : Program} {w : World} {A : Around} {E : Value → Shared → Prop} {g : Heap} {ws : List Addr} {s₀ s s' : Shared} {L : Addr} {m : Str → Option Value} {news : List (Addr × Obj)} {cc P : Addr}
theorem Cx.grown {h' : Heap} {tk : Nat} (c : Cx w g ws s₀ L m news s) (hP : P ∈ tabG) (hx : Heap.ExtBut P s.heap h') (hsz : s.heap.objs.size ≤ h'.objs.size) (T : Tabs h') : Cx w g ws s₀ L m news { s with heap := h', toks := tk } :=
  c.call0 ⟨fun b o _ ht e => hx b o (fun q => ht (q ▸ hP)) e, hsz, rfl⟩ ⟨c.gd.low fun b o _ ht e => hx b o (fun q => tabG_sub ht (q ▸ hP)) e, T, c.bare⟩
theorem tabs_upd {h h' : Heap} {ps : Array Value} (t : Tabs h) (hx : Heap.ExtBut P h h') (e : h'.get? P = some (tabObj ps)) (ht : TriplesOk ps.toList) : Tabs h' := fun R hR => by
  by_cases q : R = P
  · subst q; exact ⟨ps, e, ht⟩
  · obtain ⟨ps', e', o'⟩ := t R hR
    exact ⟨ps', hx R _ q e', o'⟩
theorem gcode {env : Env} {pos : Pos} {qn : Str} {scope : Scope} {Q : Value → Shared → Prop} (c : Cx w g ws s₀ L m news s) (hP : P ∈ tabG) (hcode : env.code = .ref cc) (hd : codeHdIn (KK w) cc P = true)
    (h : ∀ cv h' tk, Heap.ExtBut P s.heap h' → s.heap.objs.size ≤ h'.objs.size → Tabs h' → Q cv { s with heap := h', toks := tk }) :
    wpAny (model prog w) A (genexprCode env pos qn scope) Q E s := by
  obtain ⟨ps, e, ht⟩ := c.T P hP
  have C := codeHd_of_K c.X hd
  cases hf : codeAmong pos ps.toList with
  | some cv => exact wpAny_genexprCode_hit hcode (C.code e ht) hf (h cv s.heap s.toks (fun _ _ _ e => e) (Nat.le_refl _) c.T)
  | none =>
    refine wpAny_genexprCodeX hcode (C.code e ht) (C.tab e) hf fun c' h' tk hx hge hlt hcd _ htab _ => h _ h' tk hx (Nat.le_trans hge (Nat.le_of_lt hlt)) ?_
    obtain ⟨o, vs, file, tf, flags, tg, inF, text, tt, op, ho, hd, h11, h2, h7, h9, h10, hop, hpd, htr, hne⟩ := hcd
    exact tabs_upd c.T hx htab.2 htr
theorem Cx.moved {wr : List Addr} {q : Nat} (c : Cx w g ws s₀ L m [] s) (hm : Moved wr (GenOnlyQ q) s s') (hw : ∀ b ∈ wr, (L : Nat) < b) : Cx w g ws s₀ L m [] s' :=
  ⟨c.B, c.big, c.hL, c.F.moved hm hw, (fun _ h => nomatch h), c.T.keeps fun b o hb e => hm.heap b o (fun q => not_tab (Nat.le_trans c.big (Nat.le_of_lt (hw b q))) hb) e, c.bare.movedS hm, hm.os.trans c.os, fun _ h => nomatch h⟩

variable {a d : Addr} {its : Array Value} {n : Nat} {i : Int} {hh : Int} {tk t : Tok} {ps : List (Str × Str)}
theorem passing_all (n₀ : Nat) : passing (fun _ => true) n₀ 0 = List.range n₀ := by
  simp [passing]
theorem walksS_toF {I : Addr} {fp wr : List Addr} {G : Array GenState → Array GenState → Prop} {n : Nat} {F F' : Nat → Value → Prop} {St : Nat → Shared → Prop}
    (W : WalksS prog w A I fp wr G n F St) (h : ∀ j y, F j y → F' j y) : WalksS prog w A I fp wr G n F' St :=
  ⟨W.sub, W.grefl, W.gtrans, W.frame, fun i s Q E hi st hQ => W.item i s Q E hi st fun v s' hv => hQ v s' (h i v hv), W.done, W.self⟩

theorem of_refs {l : List Value} {T : Addr} (h : T ∈ refsOf l) : Value.ref T ∈ l := by
  induction l with
  | nil => cases h
  | cons x r ih =>
    cases x <;> first | exact .tail _ (ih h) | (cases h with | head => exact .head _ | tail _ h => exact .tail _ (ih h))
theorem PairsAt.refs {h : Heap} (Ps : PairsAt h its ps) {b : Addr} (hb : b ∈ refsOf its.toList) : ∃ o, h.get? b = some o := by
  obtain ⟨j, hj, e⟩ := List.getElem_of_mem (of_refs hb)
  have hj' : j < ps.length := by rw [← Ps.size]; simpa using hj
  obtain ⟨v, hv, T, t1, t2, rfl, _, eT⟩ := Ps.at_ j _ (List.getElem?_eq_getElem hj')
  rw [← Array.getElem?_toList, List.getElem?_eq_getElem hj, e] at hv
  cases hv
  exact ⟨_, eT⟩
theorem PairsAt.high {h h' : Heap} (P : PairsAt h its ps) (k : ∀ b o, (221 : Nat) ≤ b → h.get? b = some o → h'.get? b = some o) : PairsAt h' its ps := by
  refine ⟨P.size, fun j p hp => ?_⟩
  obtain ⟨v, hv, T, t1, t2, rfl, hT, e⟩ := P.at_ j p hp
  exact ⟨_, hv, T, t1, t2, rfl, hT, k T _ hT e⟩
theorem acc_gen {cn : Str} {cs : Scope} {fa : Addr} {cl : List (Str × Addr)} {Q : Value → Shared → Prop} {elt iter : Expr} {scope : Scope} {pos pa pb pt : Pos} {kt : Nat} {xa xb : Str} (c : Cx w g ws s₀ L m [] s) (ha : A.handled = none) (hroom : A.depth < recursionLimit)
    (hP : P ∈ tabG) (hd : codeHdIn (KK w) cc P = true) (ga : g.get? a = some (accObj d its n)) (gd : g.get? d = some (accDict hh tk i t)) (Ps : PairsAt g its ps) (F : Nat → Value → Prop)
    (hit : ∀ {Q' : Value → Shared → Prop}, Q' (.ref a) s → wpAny (model prog w) A (eval iter (envX cn cs L fa (.ref cc) cl)) Q' E s)
    (hclos : closureFor scope (envX cn cs L fa (.ref cc) cl) = pure [])
    (helt : ∀ (A' : Around) E' C cv j p t1 t2 (s₂ : Shared) m₂, A'.handled = none → A'.depth ≤ A.depth + 1 → ps[j]? = some p → s₂.heap.Ns C m₂ → m₂ xa = some (.str p.1 t1) → m₂ xb = some (.str p.2 t2) → Gd w s₂.heap →
      wpAny (model prog w) A' (eval elt (genEnv scope [] C cv builtinsNs (envX cn cs L fa (.ref cc) cl))) (fun y s₃ => F j y ∧ Keeps s₂ s₃) E' s₂)
    (h : ∀ b s₅, Cx w g ws s₀ L m [] s₅ → Gen prog w A L b ps.length F s₅ → Q (.ref b) s₅)
    (hs : ∀ x, genFold iter (envX cn cs L fa (.ref cc) cl) x = pure x := by intro x; rfl)
    (hco : scope.isCoroutine = false := by rfl) (hcell : ∀ y ∈ scope.names, y.2 ≠ .cell := by decide) (h0 : scope.names.lookup (".0" : Str) = some NameKind.local := by rfl)
    (hxa : scope.names.lookup xa = some NameKind.local := by rfl) (hxb : scope.names.lookup xb = some NameKind.local := by rfl) (hab : xa ≠ xb := by decide) (hkind : scope.kind = .function := by rfl) :
    wpAny (model prog w) A (eval (.GeneratorExp elt [⟨.Tuple [.Name xa pa, .Name xb pb] kt pt, iter, [], 0⟩] scope pos) (envX cn cs L fa (.ref cc) cl)) Q E s := by
  refine wpAny_GeneratorExp_walksQTD ha hco hclos hcell h0 hxa hxb hab hkind hroom (hit ?_) hs
  have hL : (L : Nat) < s.heap.objs.size := by obtain ⟨oL, _, _, e, _⟩ := c.F.ns; exact Heap.lt_size e
  have la : (a : Nat) < L := c.hL ▸ Heap.lt_size (c.B.of_ _ _ ga)
  refine acc_iter c.X (accI (c.base ga) (c.base gd)) ?_
  have c₂ := c.ext (s' := { s with heap := s.heap.push { cls := .type "list_iterator", data := .fields #[.ref a, .int 0 0] } }) (fun _ _ e => Heap.get?_push_of_some _ e) rfl rfl
  refine ⟨c₂.gd.lim, gcode c₂ hP rfl hd fun cv h₃ tk₃ hx₃ hsz₃ T₃ => ?_⟩
  have c₃ := c₂.grown (tk := tk₃) hP hx₃ hsz₃ T₃
  refine bfor c₃.X ?_
  have hrefs : ∀ b ∈ refsOf its.toList, ∃ o, g.get? b = some o := fun b hb => Ps.refs hb
  have hnot : s.heap.objs.size ∉ refsOf its.toList := fun q => by
    obtain ⟨o, e⟩ := hrefs _ q
    exact absurd (Heap.lt_size (c.base e)) (Nat.lt_irrefl _)
  have hsz' : s.heap.objs.size + 1 ≤ h₃.objs.size := by
    have : (s.heap.push { cls := .type "list_iterator", data := .fields #[.ref a, .int 0 0] }).objs.size ≤ h₃.objs.size := hsz₃
    rwa [Heap.size_push] at this
  refine ⟨s.heap.objs.size, _, _, ps.length, _, _, _, (fun _ => true), F, rfl, (fun A' hA' => acc_walks (d := d) (n := n) hA' (Nat.ne_of_lt (Nat.lt_trans la hL)) hnot), ?_, ⟨?_, c₃.base ga, Ps.keeps fun b o e => c₃.base e⟩, ?_, c₃.gd.lim, ?_, ?_, ?_⟩
  · rintro j vals ⟨p, t1, t2, _, rfl⟩; exact ⟨_, _, rfl⟩
  · exact ⟨_, hx₃ _ _ (fun q => not_tab (Nat.le_trans c.big (Nat.le_of_lt hL)) (q ▸ hP)) (Heap.get?_push_size _ rfl), rfl, rfl⟩
  · intro b hb
    show (b : Nat) < h₃.objs.size
    rcases List.mem_cons.mp hb with rfl | hb
    · exact hsz'
    · rcases List.mem_cons.mp hb with rfl | hb
      · exact Nat.lt_of_lt_of_le (Nat.lt_trans la hL) (Nat.le_of_succ_le hsz')
      · obtain ⟨o, e⟩ := hrefs _ hb
        exact Heap.lt_size (c₃.base e)
  · intro q
    rw [List.mem_singleton] at q
    have hc := c.gd.lim
    obtain ⟨_, hn, _⟩ := hc
    exact absurd (q ▸ hn.lt) (Nat.lt_irrefl _)
  · intro href hhref
    have G : Gd w href := c₃.gd.keeps hhref
    have low : ∀ s₂ : Shared, (∀ b ∈ List.range h₃.objs.size, b ∉ [s.heap.objs.size] → ∀ o, href.get? b = some o → s₂.heap.get? b = some o) → Gd w s₂.heap := fun s₂ hk => G.low fun b o hb _ e => by
      have h1 : (221 : Nat) ≤ s.heap.objs.size := Nat.le_trans c.big (Nat.le_of_lt hL)
      have hb' : (b : Nat) < s.heap.objs.size := Nat.lt_of_lt_of_le hb h1
      exact hk b (List.mem_range.mpr (Nat.lt_of_lt_of_le hb' (Nat.le_of_succ_le hsz'))) (by rw [List.mem_singleton]; exact Nat.ne_of_lt hb') o e
    refine ⟨fun A' E' j va vb s₂ m₂ _ _ _ _ _ _ _ _ => ?_, fun A' E' j va vb s₂ m₂ hA hD _ hp _ hn ha hb hk => ?_⟩
    · exact wpAny_pure ⟨rfl, s₂.heap, s₂.toks, rfl, fun _ _ e => e⟩
    · obtain ⟨p, t1, t2, hp, e⟩ := hp
      have e1 : va = .str p.1 t1 := congrArg (fun x : Array Value => x.getD 0 .none) e
      have e2 : vb = .str p.2 t2 := congrArg (fun x : Array Value => x.getD 1 .none) e
      subst e1 e2
      exact helt A' E' _ cv j p t1 t2 s₂ m₂ hA hD hp hn ha hb (low s₂ hk)
  · intro b h₅ tk₅ gs hgb hab hsz₅ hk₅ W hat
    have c₅ : Cx w g ws s₀ L m [] { s with gens := s.gens.push gs, toks := tk₅, heap := h₅ } :=
      ⟨c.B, c.big, c.hL, c₃.F.keeps hk₅, (fun _ h => nomatch h), T₃.keeps fun b o _ e => hk₅ b o e, c.bare.push hgb, c.os, fun _ h => nomatch h⟩
    have W' := walksS_toF W (F' := F) fun j y hy => by
      obtain ⟨i, hi, hF⟩ := hy
      rw [passing_all] at hi
      obtain ⟨hj, e⟩ := List.getElem?_eq_some_iff.mp hi
      rw [List.getElem_range] at e
      exact e ▸ hF
    rw [passing_all, List.length_range] at W'
    refine h b _ c₅ ⟨_, _, _, _, W', hat, (fun i s' st => st.1.typeIs), List.mem_cons_self, ?_, ?_⟩
    · intro b' hb
      show (b' : Nat) < h₅.objs.size
      rw [hsz₅]
      rcases List.mem_cons.mp hb with rfl | hb
      · exact Nat.lt_succ_self _
      · rcases List.mem_cons.mp hb with rfl | hb
        · exact Nat.lt_succ_of_lt hab
        · exact Nat.lt_succ_of_lt (Nat.lt_trans (List.mem_range.mp hb) hab)
    · intro b' hb
      rcases List.mem_cons.mp hb with rfl | hb
      · exact Nat.lt_of_lt_of_le hL (Nat.le_of_succ_le hsz')
      · rw [List.mem_singleton] at hb; subst hb; exact hL
end
end Mine
end

section
open PySem PySem.W PySem.Calls PyProof.Rows
set_option maxRecDepth 100000
set_option maxHeartbeats 8000000
namespace Mine
section
variable {prog : Program} {w : World} {A : Around} {E : Value → Shared → Prop} {s : Shared}
theorem walksS_late {I : Addr} {fp wr : List Addr} {G : Array GenState → Array GenState → Prop} {n : Nat} {F : Nat → Value → Prop} {St : Nat → Shared → Prop}
    (W : WalksS prog w A I fp wr G n F St) : WalksS prog w A I fp wr G (n + 1) (fun j y => ∃ k, j = k + 1 ∧ F k y) (fun j s => ∃ k, j = k + 1 ∧ St k s) where
  sub := W.sub
  grefl := W.grefl
  gtrans := W.gtrans
  frame := fun i s h' tk ⟨k, e, st⟩ h1 h2 => ⟨k, e, W.frame k s h' tk st h1 h2⟩
  item := fun i s Q E hi ⟨k, e, st⟩ hQ => by
    subst e
    exact W.item k s Q E (Nat.lt_of_succ_lt_succ hi) st fun v s' hv st' hm => hQ v s' ⟨k, rfl, hv⟩ ⟨k + 1, rfl, st'⟩ hm
  done := fun s Q E ⟨k, e, st⟩ hQ => by
    cases e
    exact W.done s Q E st hQ
  self := fun i s Q E ⟨k, _, st⟩ hQ => W.self k s Q E st hQ
theorem starEach_gen {elt : Expr} {gens : List Comprehension} {scope : Scope} {pos : Pos} {rest : List Expr} {env : Env} : starEach (.GeneratorExp elt gens scope pos :: rest) env = (false, eval (.GeneratorExp elt gens scope pos) env) :: starEach rest env := by
  first | rfl | (rw [starEach]; intro _ _ e; cases e) | rw [starEach]
theorem gen_later {K a : Addr} {n : Nat} {F : Nat → Value → Prop} {h' : Heap} {tk : Nat} (X : Gen prog w A K a n F s) (ht : s.toks ≤ tk) (k : ∀ b o, s.heap.get? b = some o → h'.get? b = some o) (hsz : s.heap.objs.size ≤ h'.objs.size) : Gen prog w A K a n F { s with heap := h', toks := tk } :=
  let ⟨fp, wr, g, St, W, h1, h2, h3, h4, h5⟩ := X; ⟨fp, wr, g, St, W, W.frame 0 s h' tk h1 ht fun b _ o e => k b o e, h2, h3, fun b hb => Nat.lt_of_lt_of_le (h4 b hb) hsz, h5⟩
theorem args_sum2 (a b : Value) : argsOk "sum" ⟨[a, b], []⟩ := by unfold argsOk; kernel_rfl
noncomputable def shifted (i : Int) (val : Nat → Int) : Nat → Int
  | 0 => i
  | j + 1 => val j
theorem preSum_shifted (i : Int) (val : Nat → Int) : ∀ j, preSum (shifted i val) (j + 1) = i + preSum val j
  | 0 => by simp [preSum, shifted]
  | j + 1 => by rw [preSum, preSum_shifted i val j]; simp only [shifted, preSum]; (exact om0)
theorem sum_start {a K : Addr} {n : Nat} {F : Nat → Value → Prop} {i : Int} {t : Tok} {Q : Value → Shared → Prop} (X : Gen prog w A K a n F s) (val : Nat → Int) (hval : ∀ j v, F j v → ∃ t, v = .int (val j) t) (hi : InLong i) (hfit : ∀ j, j < n → InLong (val j) ∧ InLong (i + preSum val (j + 1)))
    (hQ : ∀ s' t' wr q, Moved wr (GenOnlyQ q) s s' → (∀ b ∈ wr, (K : Nat) < b) → Q (.int (i + preSum val n) t') s') : wpAny (model prog w) A (call (.builtin "sum") [.ref a, .int i t]) Q E s := by
  obtain ⟨fp, wr, g, St, W, hst, _, _, hfp, hwr⟩ := X
  have W := W.in4_1
  refine call_function_tree PySem.F.kind_sum PySem.F.plain_sum PySem.F.entry_sum (args_sum2 _ _) ?_
  unfold Builtin.«sum»
  simp only [List.length_cons, List.length_nil]
  rw [if_neg (by decide)]
  refine wpAny_bind (wpAny_of_eq (show Builtin.Builtins.bindParams "sum" ["start"] 0 ⟨[.int i t], []⟩ = pure [some (.int i t)] from rfl) ?_)
  refine wpAny_bind (W.self 0 _ _ _ hst ?_)
  have hfl : (decide (-(2 ^ 63) ≤ i) && decide (i < 2 ^ 63)) = true := by
    unfold InLong at hi
    simp only [Bool.and_eq_true, decide_eq_true_eq]
    assumption
  dsimp only
  rw [if_pos (by exact hfl)]
  refine wpAny_bind (wpAny_rule (wpAny_bind (wpAny_mkInt (wpAny_bind (wpAny_pure ?_)))))
  simp only [List.forIn_cons, List.forIn_nil]
  refine wpAny_bind (wpAny_bind (wpAny_bind (wpAny_isInstance (T := "int") (b := false) (typeIs_int _ _ _) PySem.sub_int_str ?_)))
  simp only [Bool.false_eq_true, if_false]
  refine wpAny_pure (wpAny_bind (wpAny_bind (wpAny_isInstance (T := "int") (b := false) (typeIs_int _ _ _) sub_int_bytes ?_)))
  simp only [Bool.false_eq_true, if_false]
  refine wpAny_pure (wpAny_bind (wpAny_bind (wpAny_isInstance (T := "int") (b := false) (typeIs_int _ _ _) sub_int_bytearray ?_)))
  simp only [Bool.false_eq_true, if_false]
  refine wpAny_pure (wpAny_pure ?_)
  refine wpAny_bind (wpAny_newObj_type ?_)
  have hSf : s.heap.objs.size ∉ fp := fun hm => Nat.lt_irrefl _ (hfp _ hm)
  refine wpAny_pure ⟨plainId_quiet PySem.F.plain_sum_loop _, codeAny_sum_loopS (walksS_late W) (shifted i val) ?_ ?_ s.heap.objs.size hSf n 1 _ s.toks 0 (by (exact om1)) (by (exact Nat.zero_lt_succ _))
    ⟨0, rfl, W.frame 0 s _ _ hst (by first | exact Nat.le_refl _ | exact Nat.le_succ _ | omega) fun b _ o e => Heap.get?_push_of_some _ e⟩ ?_ fun s' t' hm => ?_⟩
  · rintro j v ⟨k, rfl, hF⟩; exact hval k v hF
  · intro j hj
    cases j with
    | zero => simp only [shifted, preSum]; rw [Int.zero_add]; exact ⟨hi, hi⟩
    | succ j => rw [preSum_shifted]; exact hfit j (Nat.lt_of_succ_lt_succ hj)
  · rw [show preSum (shifted i val) 1 = i by simp [preSum, shifted]]; exact Heap.get?_push_size _ rfl
  · rw [preSum_shifted]
    exact hQ s' t' wr g (hm.drop_new (by first | exact Nat.le_refl _ | exact Nat.le_succ _ | omega)) hwr
end
section
variable {w : World} {A : Around} {E : Value → Shared → Prop} {s : Shared} {Q : Value → Shared → Prop} {a d : Addr} {its : Array Value} {n : Nat} {i : Int} {ps : List (Str × Str)}
theorem Keeps.toks {s : Shared} {tk : Nat} : Keeps s { s with toks := tk } := ⟨s.heap, tk, rfl, fun _ _ e => e⟩
noncomputable def sizeOf' (p : Str × Str) : Int := (p.1.length : Int) + p.2.length
noncomputable def sizes (ps : List (Str × Str)) : Int := (ps.map sizeOf').sum
theorem sizes_cons (p : Str × Str) (ps : List (Str × Str)) : sizes (p :: ps) = sizeOf' p + sizes ps := by simp [sizes]
theorem sizes_nonneg (ps : List (Str × Str)) : 0 ≤ sizes ps := by
  induction ps with
  | nil => simp [sizes]
  | cons p r ih => rw [sizes_cons]; unfold sizeOf'; (exact om2 ih)
theorem sizes_append (a b : List (Str × Str)) : sizes (a ++ b) = sizes a + sizes b := by simp [sizes]
theorem preSum_take (ps : List (Str × Str)) : ∀ j, j ≤ ps.length → preSum (fun k => ((ps[k]?).map sizeOf').getD 0) j = sizes (ps.take j)
  | 0, _ => by simp [preSum, sizes]
  | j + 1, h => by
    rw [preSum, preSum_take ps j (by (exact Nat.le_of_lt (by assumption))), List.take_add_one, sizes_append]
    have : ps[j]? = some ps[j] := List.getElem?_eq_getElem (by assumption)
    rw [this]
    simp [sizes]
theorem sizes_take_le (ps : List (Str × Str)) (j : Nat) : sizes (ps.take j) ≤ sizes ps := by
  have := sizes_append (ps.take j) (ps.drop j)
  rw [List.take_append_drop] at this
  have := sizes_nonneg (ps.drop j)
  (exact om3 (by assumption) this)
theorem sizes_mem {ps : List (Str × Str)} {j : Nat} {p : Str × Str} (h : ps[j]? = some p) : sizeOf' p ≤ sizes ps := by
  induction ps generalizing j with
  | nil => simp at h
  | cons q r ih =>
    rw [sizes_cons]
    cases j with
    | zero => simp at h; subst h; have := sizes_nonneg r; (exact om4 this)
    | succ j => simp at h; have := ih h; unfold sizeOf' at *; (exact om5 this)

section
variable {prog : Program} {A' : Around} {E' : Value → Shared → Prop} {env : Env} {C : Addr} {m₂ : Str → Option Value} {x : Str} {v : Value} {pos : Pos}
theorem g_name (hn : s.heap.Ns C m₂) (hv : m₂ x = some v) (h : Q v s) (hC : env.locals = C := by rfl) (hk : env.scope.kind = .function := by rfl) (hx : env.kindOf x = some .local := by rfl) (hd : (x == ("__debug__" : Str)) = false := by decide) :
    wpAny (model prog w) A' (eval (.Name x pos) env) Q E' s := wpAny_Name (wpAny_loadName_local hk hx (hC ▸ hn) hv h) hd
theorem g_built (G : Gd w s.heap) (e : nsIn (KK w) mainGlobals x = some none) (hv : bootBuiltins x = some v) (hn : x ≠ "__name__") (h : Q v s) (hg : env.globals = mainGlobals := by rfl) (hb : env.builtins = builtinsNs := by rfl)
    (hk : env.scope.kind = .function := by rfl) (hx : env.kindOf x = some .globalImplicit := by rfl) (hd : (x == ("__debug__" : Str)) = false := by decide) :
    wpAny (model prog w) A' (eval (.Name x pos) env) Q E' s :=
  let ⟨_, _, _, _, T⟩ := G.T; Name_function_global hk hx (loadGlobal_builtin (env := env) (hg ▸ T.g) (mg_none_of G.X T.g e) (hb ▸ T.b) ((T.builtins x hn).trans hv) h) hd
theorem g_glob (G : Gd w s.heap) (e : nsIn (KK w) mainGlobals x = some (some v)) (h : Q v s) (hg : env.globals = mainGlobals := by rfl)
    (hk : env.scope.kind = .function := by rfl) (hx : env.kindOf x = some .globalImplicit := by rfl) (hd : (x == ("__debug__" : Str)) = false := by decide) :
    wpAny (model prog w) A' (eval (.Name x pos) env) Q E' s :=
  let ⟨_, _, _, _, T⟩ := G.T; Name_function_global hk hx (loadGlobal_global (env := env) (hg ▸ T.g) (mg_of G.X T.g e) h) hd
end
theorem len_ok (O : Ok w s) (ha : A.handled = none) (hroom : A.depth + 1 < recursionLimit) (Y : AccAt s.heap a d its n i) (Ps : PairsAt s.heap its ps) (hi : -1000 ≤ i ∧ i ≤ 1000000) (hsz : sizes ps ≤ 1000000)
    (h : ∀ s' t, Ok w s' → St [] s s' → Q (.int (i + sizes ps) t) s') :
    wpAny (model PG w) A (call (.ref 145) [.ref a]) Q E s := by
  obtain ⟨la, ld, oa, hh, tk, t, od⟩ := Y
  refine c_enter (binds := [("self", .ref a)]) [] O (Nat.lt_of_succ_lt hroom) no_own fun g L s₁ c => ?_
  have gd : g.get? d = some (accDict hh tk i t) := c.B.all d _ (fun h => nomatch h) (not_tab ld) od
  have ga : g.get? a = some (accObj d its n) := c.B.all a _ (fun h => nomatch h) (not_tab la) oa
  have Pg : PairsAt g its ps := Ps.high fun b o hb e => c.B.all b _ (fun h => nomatch h) (not_tab hb) e
  refine wpAny_execs_cons ?_
  refine wpAny_Return_some ?_
  refine Call_ ?_
  refine c_built c (v := .builtin "sum") ?_ ?_ ?_ ?_
  · kernel_rfl
  · kernel_rfl
  · decide
  refine callWith_builtin1 (he := starEach_gen) ?_
  refine spliced_more (he := starEach_gen) ?_
  refine acc_gen (P := 140) (F := fun j y => ∃ t, y = .int (((ps[j]?).map sizeOf').getD 0) t) c ha hroom (by decide) (by kernel_rfl) ga gd Pg ?_ ?_ ?_ ?_
  · intro Q' q; exact c_name c rfl q
  · kernel_rfl
  · intro A' E' C cv j p t1 t2 s₂ m₂ hA hD hp hn h1 h2 G₂
    have hp' := sizes_mem hp
    unfold sizeOf' at hp'
    refine wpAny_BinOp (Call_ ?_)
    refine g_built G₂ (v := .builtin "len") ?_ ?_ ?_ ?_
    · kernel_rfl
    · kernel_rfl
    · decide
    refine callWith_builtin1 (spliced_more (g_name hn h1 (spliced_none ?_)))
    refine P.len_str (by lia) ?_
    refine Call_ ?_
    refine g_built (s := { s₂ with toks := s₂.toks + 1 + 1 }) G₂ (v := .builtin "len") ?_ ?_ ?_ ?_
    · kernel_rfl
    · kernel_rfl
    · decide
    refine callWith_builtin1 (spliced_more (g_name (s := { s₂ with toks := s₂.toks + 1 + 1 }) hn h2 (spliced_none ?_)))
    refine P.len_str (by lia) ?_
    refine add_int ?_
    exact ⟨⟨_, by rw [hp]; rfl⟩, Keeps.toks⟩
  · intro b s₂ c₂ X₂
    refine spliced_more ?_
    refine Attribute_any_ ?_
    refine c_name c₂ rfl ?_
    refine get_l (K := KK w) (C := 178) c₂.X (accI (c₂.base ga) (c₂.base gd)) ?_ ?_ ?_ (v := .int i t) ?_ ?_ ?_
    · kernel_rfl
    · kernel_rfl
    · kernel_rfl
    · kernel_rfl
    · rfl
    refine spliced_none ?_
    have X₃ := gen_later (tk := s₂.toks + 1) X₂ (Nat.le_succ _) (fun _ _ e => e) (Nat.le_refl _)
    have c₃ := c₂.ext (s' := { s₂ with toks := s₂.toks + 1 }) (fun _ _ e => e) rfl rfl
    refine sum_start X₃ (fun k => ((ps[k]?).map sizeOf').getD 0) ?_ ?_ ?_ ?_
    · exact fun j v e => e
    · unfold InLong; lia
    · intro j hj
      rw [preSum_take ps (j + 1) hj]
      have h1 := sizes_take_le ps (j + 1)
      have h2 := sizes_nonneg (ps.take (j + 1))
      have h3 := sizes_mem (List.getElem?_eq_getElem hj)
      have h4 : 0 ≤ sizeOf' ps[j] := by unfold sizeOf'; (exact om9 hj)
      rw [List.getElem?_eq_getElem hj]
      unfold InLong
      simp only [Option.map_some, Option.getD_some]
      lia
    · intro s₄ t₄ wr q hm hw
      rw [preSum_take ps ps.length (Nat.le_refl _), List.take_length]
      have c₄ := c₃.moved hm hw
      exact h _ _ c₄.ok c₄.st
end
end Mine
end

section
open PySem PySem.W PySem.Calls PyProof.Rows
set_option maxRecDepth 100000
set_option maxHeartbeats 8000000
namespace Mine
noncomputable def ofL (l : List Nat) : Str := ⟨l.toArray⟩
theorem ofL_toList (x : Str) : ofL x.cps.toList = x := by cases x; simp [ofL]
theorem ofL_len (l : List Nat) : (ofL l).length = l.length := by simp [ofL, Str.length]
noncomputable def flat (ps : List (Str × Str)) : List Nat := ps.flatMap fun p => p.1.cps.toList ++ p.2.cps.toList
theorem ofL_append (a b : Str) : a ++ b = ofL (a.cps.toList ++ b.cps.toList) := by
  show (⟨a.cps ++ b.cps⟩ : Str) = _
  unfold ofL
  congr 1
  apply Array.ext'
  simp
theorem join_empty : ∀ l : List Str, Txt.join (ofL []) l = ofL (l.flatMap fun x => x.cps.toList)
  | [] => rfl
  | [x] => by
    show x = _
    simp [ofL_toList]
  | x :: y :: r => by
    have e : Txt.join (ofL []) (x :: y :: r) = x ++ ofL [] ++ Txt.join (ofL []) (y :: r) := by
      unfold Txt.join
      rw [StrLaws.glued_eq_join, StrLaws.glued_eq_join]; rfl
    rw [e]
    rw [join_empty (y :: r), ofL_append, ofL_append]
    simp [ofL]
section
variable {prog : Program} {w : World} {A : Around} {E : Value → Shared → Prop} {s : Shared} {x : Str} {t : Tok} {Q : Value → Shared → Prop}
theorem join_tup {T : Addr} {l : List (Str × Tok)} (hT : s.heap.get? T = some (tupObj (strValues l).toArray)) (hok : JoinOk x (l.map (·.1)) = true)
    (hq : ∀ t' k, Q (.str (Txt.join x (l.map (·.1))) t') { s with toks := k }) : wpAny (model prog w) A (call (.builtin "str.join") [.str x t, .ref T]) Q E s := by
  obtain ⟨other, e⟩ := join_tree x t T
  refine wpAny_call (codeAny_call_builtin F.slot_str_join.plain F.entry_str_join (F.slot_str_join.check _ _ _ _ _ _ _ _ (typeIs_str _ _ _) (F.args_str_join_2 _ _) ?_))
  rw [e]
  refine wpAny_bind (wpAny_typeOf (T := "tuple") ⟨_, hT, rfl⟩ ?_)
  rw [if_pos (by decide)]
  refine wpAny_bind (wpAny_seqItems hT rfl ?_)
  dsimp only
  unfold JoinOk at hok
  rw [Bool.not_eq_true'] at hok
  have g : Gives (joinTail x (strValues l)) (joinMade x l) := by
    have g0 := gives_joinTail x l hok
    cases l with
    | nil => exact g0
    | cons p r => cases r with
      | nil => exact g0
      | cons q r' => exact g0
  exact g prog w A (wants Q E) s (post_join l ⟨joinFit_length hok, hq⟩)
end
section
variable {w : World} {A : Around} {E : Value → Shared → Prop} {s : Shared} {Q : Value → Shared → Prop} {a d : Addr} {its : Array Value} {n : Nat} {i : Int} {ps : List (Str × Str)}
theorem flat_length (ps : List (Str × Str)) : ((flat ps).length : Int) = sizes ps := by
  induction ps with
  | nil => rfl
  | cons p r ih =>
    rw [sizes_cons]
    unfold flat at *
    rw [List.flatMap_cons, List.length_append, List.length_append]
    unfold sizeOf' Str.length
    simp only [Array.length_toList]
    (exact om11 ih)
theorem str_of {r : Option (Option Value)} {l : List Nat} (h : (match r with | some (some (.str x _)) => x.cps.toList == l | _ => false) = true) : ∃ t, r = some (some (.str (ofL l) t)) := by
  split at h
  · rename_i x t
    refine ⟨t, ?_⟩
    rw [← eq_of_beq h, ofL_toList]
  · cases h
theorem empty_at (w : World) : ∃ t, nsIn (KK w) mainGlobals "EMPTYSTRING" = some (some (.str (ofL []) t)) := str_of (by kernel_rfl)
theorem joinOk_of {sep : Str} {l : List Str} (h : (l.map (·.length)).sum + l.length * sep.length ≤ sizeLine) : JoinOk sep l = true := by
  unfold JoinOk Builtin.Str.tooLong
  rw [StrLaws.joinTotal]
  simp only [Bool.not_eq_true', decide_eq_false_iff_not]
  (exact om12 h)
theorem join_mov {prog : Program} {K b : Addr} {n : Nat} {F : Nat → Value → Prop} {sep : Str} {t : Tok} (X : Gen prog w A K b n F s) (tx : Nat → Str) (htx : ∀ j v, F j v → ∃ u, v = .str (tx j) u)
    (hok : JoinOk sep ((List.range n).map tx) = true)
    (hQ : ∀ s' t' k wr q, Moved wr (GenOnlyQ q) s s' → (∀ b ∈ wr, (K : Nat) < b) → Q (.str (Txt.join sep ((List.range n).map tx)) t') { s' with toks := k })
    (hsz : n ≤ sizeLine) : wpAny (model prog w) A (call (.builtin "str.join") [.str sep t, .ref b]) Q E s := by
  obtain ⟨fp, wr, g, St, W, hst, hT, ha, hfp, hwr⟩ := X
  have W := W.in4_2
  refine SC.joinGen W hT hst hfp ha (fun j v hv => let ⟨u, e⟩ := htx j v hv; ⟨_, u, e⟩) (fun s' lt hm hacc => ?_) hsz
  have hl : lt.map (·.1) = (List.range n).map tx := by
    apply List.ext_getElem?
    intro j
    have hsz : lt.length = n := by simpa [strValues] using hacc.1
    by_cases hj : j < n
    · have hj' : j < lt.length := hsz ▸ hj
      obtain ⟨u, hv⟩ := htx j _ (hacc.2 j (.str lt[j].1 lt[j].2) (by simp [strValues, List.getElem?_eq_getElem hj']))
      injection hv with h1 _
      simp [List.getElem?_eq_getElem hj', hj, h1]
    · have hj' : ¬ j < lt.length := hsz ▸ hj
      simp [hj, hj']
  rw [hl]
  exact ⟨hok, fun t' k => hQ _ t' k wr g hm hwr⟩
theorem str_ok (O : Ok w s) (ha : A.handled = none) (hroom : A.depth + 1 < recursionLimit) (Y : AccAt s.heap a d its n i) (Ps : PairsAt s.heap its ps) (hsz : sizes ps ≤ 1000000) (hlen : ps.length ≤ 100000)
    (h : ∀ s' t, Ok w s' → St [] s s' → Q (.str (ofL (flat ps)) t) s') :
    wpAny (model PG w) A (call (.ref 152) [.ref a]) Q E s := by
  obtain ⟨la, ld, oa, hh, tk, t, od⟩ := Y
  refine c_enter (binds := [("self", .ref a)]) [] O (Nat.lt_of_succ_lt hroom) no_own fun g L s₁ c => ?_
  have gd : g.get? d = some (accDict hh tk i t) := c.B.all d _ (fun h => nomatch h) (not_tab ld) od
  have ga : g.get? a = some (accObj d its n) := c.B.all a _ (fun h => nomatch h) (not_tab la) oa
  have Pg : PairsAt g its ps := Ps.high fun b o hb e => c.B.all b _ (fun h => nomatch h) (not_tab hb) e
  obtain ⟨te, he⟩ := empty_at w
  refine wpAny_execs_cons ?_
  refine wpAny_Return_some ?_
  refine MethodCall_ ?_
  refine c_glob c he ?_
  refine GM.join ?_
  refine callWith_method1 (he := starEach_gen) ?_
  refine spliced_more (he := starEach_gen) ?_
  refine acc_gen (P := 147) (F := fun j y => ∃ t, y = .str (((ps[j]?).map fun p => ofL (p.1.cps.toList ++ p.2.cps.toList)).getD (ofL [])) t) c ha hroom (by decide) (by kernel_rfl) ga gd Pg ?_ ?_ ?_ ?_
  · intro Q' q; exact c_name c rfl q
  · kernel_rfl
  · intro A' E' C cv j p t1 t2 s₂ m₂ hA hD hp hn h1 h2 G₂
    have hp' := sizes_mem hp
    unfold sizeOf' at hp'
    refine MethodCall_ ?_
    refine g_glob G₂ he ?_
    refine GM.join ?_
    refine callWith_method1 (spliced_more (Tuple_ (spliced_more (g_name hn h1 (spliced_more (g_name hn h2 (spliced_none ?_)))))))
    refine wpAny_newObj_type ?_
    refine spliced_none ?_
    refine join_tup (l := [(p.1, t1), (p.2, t2)]) (Heap.get?_push_size _ rfl) ?_ ?_
    · refine joinOk_of ?_
      simp only [List.map_cons, List.map_nil, List.sum_cons, List.sum_nil, ofL_len, List.length_nil, Nat.mul_zero]
      have : (1000000 : Nat) ≤ sizeLine := by decide
      (exact om14 hsz hp' this)
    · intro t' k
      refine ⟨⟨t', ?_⟩, _, _, rfl, fun _ _ e => Heap.get?_push_of_some _ e⟩
      rw [hp]
      simp [join_empty]
  · intro b s₂ c₂ X₂
    refine spliced_none ?_
    have hcong : (List.range ps.length).map (fun j => ((ps[j]?).map fun p => ofL (p.1.cps.toList ++ p.2.cps.toList)).getD (ofL [])) = ps.map fun p => ofL (p.1.cps.toList ++ p.2.cps.toList) := by
      apply List.ext_getElem?
      intro j
      by_cases hj : j < ps.length
      · simp [hj]
      · simp [hj]
    refine join_mov X₂ (fun j => ((ps[j]?).map fun p => ofL (p.1.cps.toList ++ p.2.cps.toList)).getD (ofL [])) (fun j v e => e) ?_ ?_ ?_
    · rw [hcong]
      refine joinOk_of ?_
      have e : ((ps.map fun p => ofL (p.1.cps.toList ++ p.2.cps.toList)).map (·.length)).sum = (flat ps).length := by
        unfold flat
        rw [List.length_flatMap, List.map_map]
        congr 1
      rw [e, ofL_len, List.length_nil, Nat.mul_zero, Nat.add_zero]
      have := flat_length ps
      have : (1000000 : Nat) ≤ sizeLine := by decide
      (exact om15 hsz e (by assumption) this)
    · intro s₄ t₄ k wr q hm hw
      have c₄ := (c₂.moved hm hw).ext (s' := { s₄ with toks := k }) (fun _ _ e => e) rfl rfl
      rw [hcong, join_empty]
      have e : (ps.map fun p => ofL (p.1.cps.toList ++ p.2.cps.toList)).flatMap (fun x => x.cps.toList) = flat ps := by
        unfold flat
        rw [List.flatMap_map]
        simp only [ofL]
      rw [e]
      exact h _ _ c₄.ok c₄.st
    · exact Nat.le_trans hlen (by decide)
end
end Mine
end

section
open PySem PySem.W PySem.Calls PyProof.Rows
set_option maxRecDepth 100000
set_option maxHeartbeats 8000000
namespace Mine
structure Rm (A : Around) (k : Nat) : Prop where
  hd : A.handled = none
  dp : A.depth + k < recursionLimit
  un : A.units + 5 * k < cLine
theorem Rm.deep {A : Around} {k : Nat} {env : Env} (r : Rm A (k + 1)) : Rm (A.deeper env) k := ⟨r.hd, by have := r.dp; show A.depth + 1 + k < _; (exact om16 this), by have := r.un; show A.units + 3 + 5 * k < _; (exact om17 this)⟩
theorem Rm.in1 {A : Around} {k : Nat} (r : Rm A (k + 1)) : Rm A.in1 k := ⟨r.hd, by have := r.dp; show A.depth + k < _; (exact Nat.le_of_lt (by assumption)), by have := r.un; show A.units + 1 + 5 * k < _; (exact om18 this)⟩
theorem Rm.le {A : Around} {k j : Nat} (r : Rm A k) (h : j ≤ k := by decide) : Rm A j := ⟨r.hd, by have := r.dp; (exact om19 h this), by have := r.un; (exact om20 h this)⟩
theorem Rm.room {A : Around} {k : Nat} (r : Rm A k) (j : Nat := 0) (h : j ≤ k := by decide) : A.depth + j < recursionLimit := by have := r.dp; (exact om19 h this)
section
variable {w : World} {A : Around} {E : Value → Shared → Prop} {s : Shared} {Q : Value → Shared → Prop} {a d : Addr} {its : Array Value} {n : Nat} {i : Int} {ps : List (Str × Str)} {od : Option Obj}
theorem special_def {name : Str} {f : Addr} {Q : Option Value → Shared → Prop} (X : (KK w).In s.heap) (I : InstAt s.heap a (accObj d its n) 178 od)
    (hf : findIn (KK w) (.ref 178) name = some (some (.ref f))) (ht : typeIn (KK w) (.ref f) = some (.type "function"))
    (h : wpAny (model PG w) A (call (.ref f) [.ref a]) (fun v s' => Q (some v) s') E s) : wpAny (model PG w) A (callSpecial? (.ref a) name) Q E s := by
  unfold callSpecial? specialOf
  refine wpAny_bind (wpAny_bind (I.type.here ((looks_findIn X hf).here ?_)))
  dsimp only
  refine wpAny_holding (wpAny_bind ?_)
  unfold bindSpecial
  refine wpAny_bind ((looks_typeIn X ht).here ?_)
  rw [if_pos (by decide)]
  exact wpAny_pure (wpAny_bind (wpAny_mono h (fun v s' q => wpAny_pure q) fun _ _ e => e))
theorem len_body (O : Ok w s) (r : Rm A 3) (Y : AccAt s.heap a d its n i) (Ps : PairsAt s.heap its ps) (hi : 0 ≤ i ∧ i ≤ 1000000) (hsz : sizes ps ≤ 1000000)
    (h : ∀ s' t, Ok w s' → St [] s s' → Q (.int (i + sizes ps) t) s') :
    wpAny (model PG w) A.in1 (Builtin.«len» ⟨[.ref a], []⟩) (fun fin s' => ∃ v, fin = .done (.ret v) ∧ Q v s') E s := by
  have hs0 := sizes_nonneg ps
  obtain ⟨hh, tk, t, od⟩ := id Y.od
  unfold Builtin.«len»
  refine wpAny_bind (m := oneArg "len" _) (wpAny_pure ?_)
  refine wpAny_bind (special_def (f := 145) O.gd.X (accI Y.oa od) ?_ ?_ ?_)
  · kernel_rfl
  · kernel_rfl
  refine len_ok O r.hd ((r.in1).room 1) Y Ps (by (exact om21 hi)) hsz fun s' t' O' S' => ?_
  refine wpAny_bind (wpAny_holding (wpAny_pure ?_))
  refine wpAny_bind (wpAny_letGo ?_)
  show wpAny _ _ (if i + sizes ps < 0 then _ else _) _ _ _
  rw [if_neg (by (exact om22 hi hsz hs0))]
  show wpAny _ _ (if i + sizes ps ≥ 2 ^ 63 then _ else _) _ _ _
  rw [if_neg (by lia)]
  refine wpAny_bind (wpAny_mkInt (wpAny_pure ⟨_, rfl, h _ _ ⟨O'.gd, O'.tabs, O'.bare⟩ ⟨S'.keep, S'.grow, S'.os⟩⟩))
theorem len_call (O : Ok w s) (r : Rm A 3) (Y : AccAt s.heap a d its n i) (Ps : PairsAt s.heap its ps) (hi : 0 ≤ i ∧ i ≤ 1000000) (hsz : sizes ps ≤ 1000000)
    (h : ∀ s' t, Ok w s' → St [] s s' → Q (.int (i + sizes ps) t) s') :
    wpAny (model PG w) A (call (.builtin "len") [.ref a]) Q E s :=
  Calls.call_function_entry kind_len plain_len entry_len (args_len1 _) (len_body O r Y Ps hi hsz h)
theorem str_call (O : Ok w s) (r : Rm A 3) (Y : AccAt s.heap a d its n i) (Ps : PairsAt s.heap its ps) (hsz : sizes ps ≤ 1000000) (hlen : ps.length ≤ 100000)
    (h : ∀ s' t, Ok w s' → St [] s s' → Q (.str (ofL (flat ps)) t) s') :
    wpAny (model PG w) A (call (.type "str") [.ref a]) Q E s := by
  obtain ⟨hh, tk, t, od⟩ := id Y.od
  refine callType_newIn F.called_str (by decide) (F.typeCall_str_1 _) (F.newCall_str_1 _) (fun obj => F.args_object_init_2 obj _) F.entry_str_new
    (S := fun A' R s' => s' = s ∧ Rm A' 2 ∧ ∀ s'' t, Ok w s'' → St [] s s'' → R (.ok (.ret (.str (ofL (flat ps)) t))) s'') (MeetsIn.of_wp fun A' R s' hS => ?_) ⟨rfl, r.in1, fun s'' t O' S' => ⟨typeIs_str _ _ _, h _ _ O' S'⟩⟩
  obtain ⟨rfl, r', hR⟩ := hS
  rw [str_new_tree]
  refine wpAny_bind (wpAny_pure ?_)
  refine wpAny_bind (wpAny_of_eq isSubtype_str_str ?_)
  refine wpAny_bind ?_
  unfold Builtin.Str.strOf
  rw [if_neg (show ¬ Builtin.Str.isExactStr (.ref a) = true from Bool.false_ne_true)]
  refine wpAny_bind (wpAny_cRoomFor (by have := r'.in1.un; (exact om24 this)) ?_)
  refine wpAny_bind (special_def (f := 152) O.gd.X (accI Y.oa od) ?_ ?_ ?_)
  · kernel_rfl
  · kernel_rfl
  refine str_ok O r'.hd (r'.room 1) Y Ps hsz hlen fun s'' t' O' S' => ?_
  exact wpAny_pure (wpAny_pure ⟨_, rfl, hR _ _ O' S'⟩)
theorem truthy_acc {Q : Bool → Shared → Prop} (O : Ok w s) (r : Rm A 3) (Y : AccAt s.heap a d its n i) (Ps : PairsAt s.heap its ps) (hi : 0 ≤ i ∧ i ≤ 1000000) (hsz : sizes ps ≤ 1000000)
    (h : ∀ s', Ok w s' → St [] s s' → Q (i + sizes ps != 0) s') : wpAny (model PG w) A (truthy (.ref a)) Q E s := by
  obtain ⟨hh, tk, t, od⟩ := id Y.od
  have I := accI Y.oa od
  have nb := looks_findIn (M := model PG w) O.gd.X (K := KK w) (t := .ref 178) (name := "__bool__") (r := none) (by kernel_rfl)
  have ln := looks_findIn (M := model PG w) O.gd.X (K := KK w) (t := .ref 178) (name := "__len__") (r := some (.ref 145)) (by kernel_rfl)
  have key : wpAny (model PG w) A (runValue (.builtin "len" ⟨[.ref a], []⟩)) (fun v s' => ∃ t, v = .int (i + sizes ps) t ∧ Ok w s' ∧ St [] s s') E s := by
    refine wpAny_runValue (codeAny_builtin entry_len ?_)
    rw [Around.under_plainId plain_len _]
    exact wpAny_mono (len_body (Q := fun v s' => ∃ t, v = .int (i + sizes ps) t ∧ Ok w s' ∧ St [] s s') O r Y Ps hi hsz fun s' t O' S' => ⟨t, rfl, O', S'⟩)
      (fun fin s' h' => by obtain ⟨r, rfl, hq⟩ := h'; exact hq) fun _ _ e => e
  unfold truthy
  refine wpAny_bind (m := callSpecial? _ _) ?_
  unfold callSpecial? specialOf
  refine wpAny_bind (wpAny_bind (I.type.here (nb.here (wpAny_pure ?_))))
  dsimp only
  refine wpAny_bind (wpAny_bind (I.type.here (ln.here ?_)))
  rw [if_neg (by decide)]
  refine wpAny_bind (wpAny_mono key (fun v s' h' => ?_) fun _ _ e => e)
  obtain ⟨t', rfl, O', S'⟩ := h'
  exact wpAny_pure (h s' O' S')
end
end Mine
end

section
open PySem PySem.W PySem.Calls PyProof.Rows
set_option maxRecDepth 100000
set_option maxHeartbeats 8000000
namespace Mine
section
variable {w : World} {A : Around} {E : Value → Shared → Prop} {s : Shared} {Q : Value → Shared → Prop} {a d : Addr} {its : Array Value} {n : Nat} {i : Int} {ps : List (Str × Str)} {hh : Int} {tk t : Tok}
theorem acc_init {Q : Value → Shared → Prop} {ex : Bool} (X : (KK w).In s.heap) (I : InstAt s.heap a (accObj d its n) 178 (some (accDict hh tk i t))) (h : Q (.int i t) { s with toks := s.toks + 1 }) :
    wpAny (model PG w) A (getAttr (.ref a) "_initial_size" ex) Q E s := by
  refine get_l (K := KK w) (C := 178) X I ?_ ?_ ?_ (v := .int i t) ?_ ?_ h
  · kernel_rfl
  · kernel_rfl
  · kernel_rfl
  · kernel_rfl
  · rfl
theorem callWith_type_1 {M : Model} {pos : Pos} {T : String} {e : Expr} {env : Env} {Q : Value → Shared → Prop} (h : wpAny M A (eval e env) (fun v s₁ => wpAny M A (call (.type T) [v]) Q E s₁) E s) (he : starEach [e] env = (false, eval e env) :: starEach [] env := by rfl) :
    wpAny M A (callWith pos (.type T) [] (backTo pos (starEach [e] env)) []) Q E s := by
  rw [he]
  exact PySem.callWith_type rfl (Calls.evalArgs_plain (Calls.spliced_cons (wpAny_mono h (fun _ _ h₁ => Calls.spliced_nil h₁) fun _ _ e => e)))
theorem onlyws_ok (O : Ok w s) (r : Rm A 5) (Y : AccAt s.heap a d its n i) (Ps : PairsAt s.heap its ps) (hi : 0 ≤ i ∧ i ≤ 1000000) (hsz : sizes ps ≤ 1000000) (hlen : ps.length ≤ 100000)
    (h : ∀ s', Ok w s' → St [] s s' → Q (.bool (i == 0 && (sizes ps == 0 || Txt.isspace (ofL (flat ps))))) s') :
    wpAny (model PG w) A (call (.ref 167) [.ref a]) Q E s := by
  obtain ⟨la, ld, oa, hh, tk, t, od⟩ := Y
  refine c_enter (binds := [("self", .ref a)]) [] O r.room no_own fun g L s₁ c => ?_
  have gd : g.get? d = some (accDict hh tk i t) := c.B.all d _ (fun h => nomatch h) (not_tab ld) od
  have ga : g.get? a = some (accObj d its n) := c.B.all a _ (fun h => nomatch h) (not_tab la) oa
  have Pg : PairsAt g its ps := Ps.high fun b o hb e => c.B.all b _ (fun h => nomatch h) (not_tab hb) e
  have Yc : ∀ {m news s'}, Cx w g [] s L m news s' → AccAt s'.heap a d its n i := fun c => ⟨la, ld, c.base ga, hh, tk, t, c.base gd⟩
  have Pc : ∀ {m news s'}, Cx w g [] s L m news s' → PairsAt s'.heap its ps := fun c => Pg.keeps fun b o e => c.base e
  refine wpAny_execs_cons ?_
  refine wpAny_Return_some ?_
  refine BoolOp_and ?_
  refine wpAny_Compare1 ?_
  refine Attribute_any_ ?_
  refine c_name c rfl ?_
  refine acc_init c.X (accI (c.base ga) (c.base gd)) ?_
  have c₂ := c.ext (s' := { s₁ with toks := s₁.toks + 1 }) (fun _ _ e => e) rfl rfl
  refine c_int c₂ fun s₃ t₃ c₃ => ?_
  refine eq_int (wpAny_truthy_bool ?_)
  cases hi0 : (i == 0) with
  | false =>
    rw [if_neg (by decide)]
    rw [hi0] at h
    exact h _ c₃.ok c₃.st
  | true =>
    rw [if_pos rfl]
    have hi00 : i = 0 := eq_of_beq hi0
    subst hi00
    rw [hi0] at h
    refine BoolOp_one ?_
    refine BoolOp_or ?_
    refine UnaryOp_ ?_
    refine c_name c₃ rfl ?_
    unfold unaryOp
    refine wpAny_holding ?_
    dsimp only
    rw [if_pos (by decide)]
    refine wpAny_bind (truthy_acc c₃.ok r.deep.le (Yc c₃) (Pc c₃) (by assumption) hsz fun s₄ O₄ S₄ => wpAny_pure ?_)
    have c₄ := c₃.call0 S₄ O₄
    refine wpAny_truthy_bool ?_
    cases hz : (sizes ps == 0) with
    | true =>
      have e0 : sizes ps = 0 := eq_of_beq hz
      have e1 : (!((0 : Int) + sizes ps != 0)) = true := by rw [e0]; rfl
      rw [e1, if_pos rfl]
      rw [hz] at h
      exact h _ c₄.ok c₄.st
    | false =>
      have e0 : sizes ps ≠ 0 := ne_of_beq_false hz
      have e1 : (!((0 : Int) + sizes ps != 0)) = false := by
        rw [Int.zero_add, bne_iff_ne.mpr e0]; rfl
      rw [e1, if_neg (by decide)]
      rw [hz] at h
      refine BoolOp_one ?_
      refine MethodCall_ ?_
      refine Call_ ?_
      refine c_built c₄ (v := .type "str") ?_ ?_ ?_ ?_
      · kernel_rfl
      · kernel_rfl
      · decide
      refine callWith_type_1 ?_
      refine c_name c₄ rfl ?_
      refine str_call c₄.ok r.deep.le (Yc c₄) (Pc c₄) hsz hlen fun s₅ t₅ O₅ S₅ => ?_
      have c₅ := c₄.call0 S₅ O₅
      refine GM.isspace ?_
      refine callWith_method0 ?_
      refine SC.isspace ?_
      exact h _ c₅.ok c₅.st
end
end Mine
end

section
open PySem PySem.W PySem.Calls PyProof.Rows
set_option maxRecDepth 100000
set_option maxHeartbeats 8000000
namespace Mine
section
variable {w : World} {A : Around} {E : Value → Shared → Prop} {s : Shared} {Q : Value → Shared → Prop} {R : Result → Shared → Prop}
theorem cls200 (w : World) : ∃ cd sl, (KK w).lookup 178 = some ⟨.type "type", none, .cls cd, sl⟩ ∧ cd.abstract = false ∧ cd.hasDel = false ∧ cd.mro = [.ref 178, .type "list", .type "object"] ∧ (sl.toList[4]?).join = some (.builtin "list.__new__") := by
  have h1 : ∃ o, (KK w).lookup 178 = some o := by
    have : ((KK w).lookup 178).isSome = true := by kernel_rfl
    exact Option.isSome_iff_exists.mp this
  obtain ⟨o, ho⟩ := h1
  have e1 : (((KK w).lookup 178).map (·.cls)) = some (.type "type") := by kernel_rfl
  have e2 : (((KK w).lookup 178).map (·.dict)) = some none := by kernel_rfl
  have e3 : (clsIn (KK w) 178).map (·.abstract) = some false := by kernel_rfl
  have e4 : (clsIn (KK w) 178).map (·.hasDel) = some false := by kernel_rfl
  have e5 : (clsIn (KK w) 178).map (·.mro) = some [.ref 178, .type "list", .type "object"] := by kernel_rfl
  have e6 : (((KK w).lookup 178).map fun o => (o.slots.toList[4]?).join) = some (some (.builtin "list.__new__")) := by kernel_rfl
  obtain ⟨c, d, dt, sl⟩ := o
  rw [ho] at e1 e2 e6
  unfold clsIn at e3 e4 e5
  rw [ho] at e3 e4 e5
  cases dt with
  | cls cd =>
    simp only [Option.map_some, Option.some.injEq] at e1 e2 e3 e4 e5 e6
    subst e1 e2
    exact ⟨cd, sl, ho, e3, e4, e5, e6⟩
  | _ => simp at e3
theorem made200 {h : Heap} (X : (KK w).In h) : Looks (model PG w) h (Bind.madeBy (.ref 178)) (some "list.__new__") := by
  obtain ⟨cd, sl, ho, e1, e2, e5, e6⟩ := cls200 w
  have hm : Looks (model PG w) h (mroOf (.ref 178)) cd.mro := (looks_clsIn X (by unfold clsIn; rw [ho])).andThen .now
  intro A Q E s k q
  unfold Bind.madeBy
  refine wpAny_bind (hm A _ E s k ?_)
  rw [e5, List.forIn_cons]
  refine wpAny_bind (wpAny_bind (wpAny_bind (wpAny_bind (wpAny_loadPart (k _ _ (X _ _ ho)) (wpAny_pure ?_)))))
  dsimp only
  rw [← Array.getElem?_toList, e6]
  exact wpAny_pure (wpAny_pure (wpAny_pure q))
theorem base200 {h : Heap} (X : (KK w).In h) : Looks (model PG w) h (Bind.staticBase (.ref 178)) (.ref 178) := by
  obtain ⟨cd, sl, ho, e1, e2, e5, e6⟩ := cls200 w
  have hm : Looks (model PG w) h (mroOf (.ref 178)) cd.mro := (looks_clsIn X (by unfold clsIn; rw [ho])).andThen .now
  intro A Q E s k q
  unfold Bind.staticBase
  refine wpAny_bind (hm A _ E s k ?_)
  rw [e5, List.forIn_cons]
  exact wpAny_bind (wpAny_bind (wpAny_bind (made200 X A _ E s k (wpAny_pure (wpAny_pure (wpAny_pure q))))))
theorem args_list_new (v : Value) : argsOk "list.__new__" ⟨[.ref 178, v], []⟩ := by unfold argsOk; kernel_rfl
theorem acc_new {v : Value} {h : Heap} {g : Array GenState} {d : Drawn} {t : Nat} {os : OsState} (X : (KK w).In h)
    (hq : R (.ok (.ret (.ref (h.objs.size + 1)))) ⟨(h.push emptyDict).push (accObj h.objs.size #[] 0), g, d, t, os⟩) :
    codeAny (model PG w) A (.call (.builtin "list.__new__") ⟨[.ref 178, v], []⟩) R ⟨h, g, d, t, os⟩ := by
  obtain ⟨cd, sl, ho, e1, e2, e5, e6⟩ := cls200 w
  have ho' := X _ _ ho
  have hs := args_list_new v
  have ty : Looks (model PG w) h (isSubtype (.ref 178) (.type "list")) true := looks_subIn X (by kernel_rfl)
  have kd : builtinKind "list.__new__" = some .builtinFn := by decide +kernel
  have sp : splitId "list.__new__" = some ("list", "__new__") := by decide +kernel
  refine codeAny_of_tree ?_
  show wpAny _ A.in1 (do checkBuiltinCall "list.__new__" ⟨[.ref 178, v], []⟩; again (.builtin "list.__new__" ⟨[.ref 178, v], []⟩)) _ _ _
  refine wpAny_bind ?_
  unfold checkBuiltinCall
  rw [kd, sp]
  dsimp only
  rw [if_pos (by decide)]
  refine wpAny_bind (ks_wpAny_isType_cls ho' rfl ?_)
  simp only [Bool.not_true, Bool.false_eq_true, if_false]
  refine wpAny_bind (ty.at ?_)
  simp only [Bool.not_true, Bool.false_eq_true, if_false]
  refine wpAny_bind ((base200 X).at (wpAny_bind ((made200 X).at ?_)))
  dsimp only
  rw [if_neg (by decide +kernel)]
  have chk : ∀ {Q' : Unit → Shared → Prop} {E'}, Q' () ⟨h, g, d, t, os⟩ → wpAny (model PG w) A.in1 (match Manifest.signature? "list.__new__" with | some sig => Bind.checkArgs "list.__new__" sig ⟨[.ref 178, v], []⟩ | none => pure ()) Q' E' ⟨h, g, d, t, os⟩ := by
    intro Q' E' q
    cases hsig : Manifest.signature? "list.__new__" with
    | none => exact wpAny_pure q
    | some sig =>
      simp only [argsOk, hsig] at hs
      have h2 : Bind.checkArgs "list.__new__" sig ⟨[.ref 178, v], []⟩ = pure () := hs
      show wpAny _ _ (Bind.checkArgs "list.__new__" sig ⟨[.ref 178, v], []⟩) _ _ _
      rw [h2]; exact wpAny_pure q
  refine chk (wpAny_pure ⟨plainId_quiet F.plain_list_new _, codeAny_builtin_stack F.entry_list_new rfl fun p st => ?_⟩)
  rw [Around.under_plainId F.plain_list_new _]
  have hown := owner_list_new
  simp only [hown]
  refine wpAny_bind (ks_wpAny_isType_cls ho' rfl ?_)
  simp only [Bool.not_true, Bool.false_eq_true, if_false]
  refine wpAny_bind (ty.at ?_)
  simp only [Bool.not_true, Bool.false_eq_true, if_false]
  refine wpAny_bind (wpAny_pure ?_)
  rw [if_neg (by decide)]
  refine wpAny_bind ?_
  refine wpAny_newObj_type ?_
  dsimp only
  refine wpAny_bind ?_
  show wpAny _ _ (newObjAsIs _ _ _) _ _ _
  unfold newObjAsIs classHasDel
  refine wpAny_bind (wpAny_alloc (wpAny_bind (wpAny_bind (wpAny_load (Heap.get?_push_of_some _ (Heap.get?_push_of_some _ ho')) (wpAny_pure ?_)))))
  rw [e2]
  refine wpAny_pure (wpAny_pure ?_)
  show R _ _
  rw [Heap.size_push]
  exact hq
theorem acc_make {v : Value} {h : Heap} {g : Array GenState} {d : Drawn} {t : Nat} {os : OsState} (X : (KK w).In h)
    (hq : codeAny (model PG w) (A.under (.builtin "type.__call__" ⟨[.ref 178, v], []⟩)) (.call (.ref 115) ⟨[.ref (h.objs.size + 1), v], []⟩) (InitBack (h.objs.size + 1) R) ⟨(h.push emptyDict).push (accObj h.objs.size #[] 0), g, d, t, os⟩) :
    codeAny (model PG w) A (.call (.ref 178) ⟨[v], []⟩) R ⟨h, g, d, t, os⟩ := by
  obtain ⟨cd, sl, ho, e1, e2, e5, e6⟩ := cls200 w
  have hC := X _ _ ho
  have made := made200 X
  have self : Looks (model PG w) h (isSubtype (.ref 178) (.ref 178)) true := looks_subIn X (by kernel_rfl)
  have call : Looks (model PG w) h (specialOf (.ref 178) "__call__") (some (.builtin "type.__call__")) := looks_specialIn X (by kernel_rfl)
  have typ : Looks (model PG w) h (isInstance (.ref 178) (.type "type")) true := looks_instIn X (by kernel_rfl)
  have hi : Looks (model PG w) h (typeLookup (.ref 178) "__init__") (some (.ref 115)) := looks_findIn X (by kernel_rfl)
  have hb : ∀ self, Looks (model PG w) h (bindSpecial (.ref 115) self) (.ref 115, [self]) := fun self => bind_fn X self (by kernel_rfl)
  have e4 : cd.mro.isEmpty = false := by rw [e5]; rfl
  refine codeAny_of_tree ?_
  show wpAny _ _ (callAny (.ref 178) _) _ _ _
  refine nd_load hC ?_
  show wpAny _ _ (callAny.viaDunder (.ref 178) _) _ _ _
  unfold callAny.viaDunder
  refine wpAny_bind (call.at ?_)
  dsimp only
  rw [tc_bind]
  refine wpAny_bind (wpAny_pure (wpAny_bind (wpAny_pure ?_)))
  refine wpAny_pure (a := Fin.again (.call (.builtin "type.__call__") ⟨[.ref 178, v], []⟩)) (And.intro rfl ?_)
  refine codeAny_call_builtin_at (Code.quiet_builtin _ (by decide +kernel)) entry_typeCall (check_slot tc_kind tc_split typ (tc_args _ _ _) ?_)
  unfold Builtin.«type.__call__»
  have hm : Looks (model PG w) h (mroOf (.ref 178)) cd.mro := ((Looks.ld (part := none) hC).andThen .now).andThen .now
  repeat (first | simp only [e4, Bool.false_eq_true, if_false] | with_reducible refine wpAny_call ?_ | lk)
  refine acc_new X ?_
  have k : ∀ b o, h.get? b = some o → ((h.push emptyDict).push (accObj h.objs.size #[] 0)).get? b = some o := fun b o e => Heap.get?_push_of_some _ (Heap.get?_push_of_some _ e)
  have hx : ((h.push emptyDict).push (accObj h.objs.size #[] 0)).get? (h.objs.size + 1) = some (accObj h.objs.size #[] 0) := by heap_get
  have t1 : Looks (model PG w) ((h.push emptyDict).push (accObj h.objs.size #[] 0)) (typeOf (.ref (h.objs.size + 1))) (.ref 178) := (Looks.ld hx).andThen .now
  have s1 := self.keeps k
  have i1 := hi.keeps k
  have b1 := (hb (.ref (h.objs.size + 1))).keeps k
  unfold isInstance callSpecial? specialOf
  repeat (first | with_reducible refine wpAny_call ?_ | lk)
  refine codeAny_mono hq fun r s' z => ?_
  rcases r with e | (v | _ | _ | _) <;> first | exact z | exact z.elim | skip
  obtain ⟨rfl, z⟩ := z
  exact wpAny_pure (wpAny_pure z)
end
end Mine
end

section
open PySem PySem.W PySem.Calls PyProof.Rows
set_option maxRecDepth 100000
set_option maxHeartbeats 8000000
namespace Mine
section
variable {w : World} {A : Around} {E : Value → Shared → Prop} {s : Shared} {Q : Value → Shared → Prop} {a d : Addr} {i : Int} {t : Tok}
theorem args_init (x : Value) : argsOk "list.__init__" ⟨[x], []⟩ := by unfold argsOk; kernel_rfl
theorem chk_init {w : World} {x : Addr} {A' : Around} {Q' : Unit → Shared → Prop} {E' : Value → Shared → Prop} {s : Shared} (q : Q' () s) : wpAny (model PG w) A' (checkBoundCall "list.__init__" ⟨[.ref x], []⟩) Q' E' s := by
  with_reducible refine chk_slot ?_ ?_ ?_
  · decide +kernel
  · exact args_init _
  · exact q
theorem put_new {h : Int} {v : Value} {tt : Tok} : Obj.putName "_initial_size" h (.str "_initial_size" tt) v emptyDict = dictOf [⟨h, .str (Str.ofString "_initial_size") tt, v⟩] 1 := by rfl
theorem c_enterSC {R : Result → Shared → Prop}
    {name qual : Str} {params : Arguments} {body : List Stmt} {scope : Scope} {cl : List (Str × Addr)} {dV kV doc pm cdv ct oc : Value} {an od : Option Addr} {osl : Array (Option Value)} {f : Addr} {args : List Value} {binds : List (Str × Value)}
    (own : List (Addr × Obj)) (O : Ok w s) (hroom : A.depth < recursionLimit)
    (hown : ∀ p ∈ own, (221 : Nat) ≤ p.1 ∧ s.heap.get? p.1 = some p.2)
    (h : ∀ g L s₁, Cx w g (own.map (·.1)) s L (fun y => binds.reverse.lookup y) own s₁ →
      _root_.PySem.wpAt (model PG w) (A.deeper (envX qual scope L f cdv cl)) (.func body (envX qual scope L f cdv cl)) (execs body (envX qual scope L f cdv cl))
        (fun fl s' => R (.ok (.ret (match fl with | .ret v => v | _ => .none))) s') (fun _ _ => False) s₁)
    (ho : (hdz.heap_242 w.params).lookup f = some ⟨oc, od, .func (fnX name qual params body scope cl dV kV doc pm an cdv ct), osl⟩ := by k_is) (hf : (!(tabA.contains f)) = true := by rfl) (hcd : codeIn (KK w) cdv qual = true := by kernel_rfl)
    (hbind : BindsTo s (fnX name qual params body scope cl dV kV doc pm an cdv ct) ⟨args, []⟩ binds := by exact BindsTo.of_eq (by kernel_rfl)) (hloc : ∀ y ∈ binds, scope.names.lookup y.1 = some .local := by exact locs (by kernel_rfl))
    (hcell : ∀ x ∈ scope.names, x.2 ≠ .cell := by decide) (hco : scope.isCoroutine = false := by rfl) (hgen : scope.isGenerator = false := by rfl) (hk : scope.kind = .function := by rfl) :
    codeAny (model PG w) A (.call (.ref f) ⟨args, []⟩) R s := by
  obtain ⟨G, tp, bare⟩ := O
  refine (ks_codeAny_call_defAt (fd := fnX name qual params body scope cl dV kV doc pm an cdv ct) (body := body) (binds := binds) hroom (G.look ho hf) rfl G.lim (codeRec_of G.X hcd) rfl hbind hcell hloc (fun h₁ hns hk₁ => ?_) hco hgen hk)
  obtain ⟨B, big⟩ := base_of G hown
  exact ks_wpAt_mono (h _ _ _ ⟨B, big, rfl, ⟨hns, fun b o e => hk₁ b o (B.of_ b o e), Nat.le_of_eq (hideAll_size _ _)⟩,
    (fun q hq => ⟨hk₁ _ _ (hown q hq).2, Nat.ne_of_lt (Heap.lt_size (hown q hq).2), B.own _ (List.mem_map_of_mem hq)⟩), tp.keeps fun b o _ e => hk₁ b o e, bare, rfl, fun q hq => .inl (hown q hq).1⟩) (fun fl s' hq => hq) fun _ _ e => e.elim

theorem init_ok {R : Result → Shared → Prop} (O : Ok w s) (hroom : A.depth < recursionLimit) (la : (221 : Nat) ≤ a) (ld : (221 : Nat) ≤ d) (hne : d ≠ a) (oa : s.heap.get? a = some (accObj d #[] 0)) (od : s.heap.get? d = some emptyDict)
    (h : ∀ s' n', Ok w s' → St [a, d] s s' → AccAt s'.heap a d #[] n' i → R (.ok (.ret .none)) s') :
    codeAny (model PG w) A (.call (.ref 115) ⟨[.ref a, .int i t], []⟩) R s := by
  refine c_enterSC (binds := [("self", .ref a), ("initial_size", .int i t)]) [(a, accObj d #[] 0), (d, emptyDict)] O hroom (own2 la oa ld od) (fun g L s₁ c => ?_) (hbind := BindsTo.of_defaults rfl (O.gd.look (by k_is) rfl) rfl rfl rfl)
  refine ks_wpAt_execs_cons (wpAt_of_wpAny (plainObj_wpAny_Assign_Attribute (c_name c rfl (c_name c rfl ?_))))
  refine acc_setAttr (es := []) (k := 0) c.X (c.get (.head _)) (c.get (.tail _ (.head _))) rfl put_new (by simp) fun s₂ hs₂ e₂ hg₂ ho₂ => ?_
  have c₂ := c.upd (Upd.tail (Ne.symm hne) (Upd.head (fun _ h => nomatch h))) ld hs₂ e₂ hg₂ ho₂
  refine ks_wpAt_execs_cons (ks_wpAt_Expr_any (ks_wpAt_MethodCall ?_))
  have I : ∀ {m news s' hh tk t its n}, Cx w g [a, d] s L m news s' → (a, accObj d its n) ∈ news → (d, accDict hh tk i t) ∈ news → InstAt s'.heap a (accObj d its n) 178 (some (accDict hh tk i t)) := fun c q q' => accI (c.get q) (c.get q')
  refine c_super c₂ rfl (I c₂ (.head _) (.tail _ (.head _))) fun so s₃ c₃ hso => ?_
  refine super_slot c₃.X (c₃.get (.head _)) (ne200 la) (inst_is (K := KK w) (C := 178) c₃.X (I c₃ (.tail _ (.head _)) (.tail _ (.tail _ (.head _)))) (by kernel_rfl)) (by kernel_rfl) (by decide) S.type_init S.owner_init ?_
  have c₄ := Cx.new (a := s₃.heap.objs.size) (o := bndObj "method-wrapper" "list.__init__" a) (c₃.ext (s' := { s₃ with heap := s₃.heap.push (bndObj "method-wrapper" "list.__init__" a), toks := s₃.toks + 1 }) (fun _ _ e => Heap.get?_push_of_some _ e) rfl rfl) (Heap.get?_push_size _ rfl) c₃.lt
  refine bound0 (.inl rfl) (c₄.get (.head _)) (by decide +kernel) chk_init PySem.F.entry_list_init ?_
  have ga := c₄.get (.tail _ (.tail _ (.head _)))
  unfold Builtin.«list.__init__»
  dsimp only
  rw [if_neg (by decide), if_neg (by decide)]
  refine wpAny_bind (wpAny_listItems ga rfl ?_)
  refine wpAny_bind (m := updateSeq a _) (wpAny_updateSeq (xs := #[]) (n := 0) ga rfl ?_)
  refine wpAny_bind (wpAny_letGo ?_)
  refine wpAny_pure ⟨_, rfl, ?_⟩
  have hs₅ : Heap.SameBut a (s₃.heap.push (bndObj "method-wrapper" "list.__init__" a)) ((s₃.heap.push (bndObj "method-wrapper" "list.__init__" a)).update a (Obj.mapSeq fun _ => #[])) := Heap.SameBut.update ..
  have e₅ : ((s₃.heap.push (bndObj "method-wrapper" "list.__init__" a)).update a (Obj.mapSeq fun _ => #[])).get? a = some (accObj d #[] 0) := by
    rw [Heap.get?_update_self _ ga rfl]; rfl
  refine wpAt_of_wpAny (wpAny_execs_nil ?_)
  have c₅ := (c₄.drop (news' := [(a, accObj d #[] 0), (d, _)]) (fun p hp => .tail _ (.tail _ hp))).upd (s' := { s₃ with heap := (s₃.heap.push (bndObj "method-wrapper" "list.__init__" a)).update a (Obj.mapSeq fun _ => #[]), toks := s₃.toks + 1 })
    (Upd.head (fun p hp => by cases hp with | head => exact hne | tail _ h => cases h)) la hs₅ e₅ rfl rfl
  exact h _ 0 c₅.ok c₅.st ⟨la, ld, e₅, _, _, _, c₅.get (.tail _ (.head _))⟩
theorem make_ok (O : Ok w s) (r : Rm A 4)
    (h : ∀ s' a d n, Ok w s' → St [] s s' → AccAt s'.heap a d #[] n i → (s.heap.objs.size : Nat) ≤ a → (s.heap.objs.size : Nat) ≤ d → Q (.ref a) s') :
    wpAny (model PG w) A (call (.ref 178) [.int i t]) Q E s := by
  obtain ⟨hp, g, dd, tt, os⟩ := s
  have big : (221 : Nat) ≤ hp.objs.size := (base_of (own := []) O.gd no_own).2
  refine wpAny_call (acc_make O.gd.X ?_)
  have hx : ((hp.push emptyDict).push (accObj hp.objs.size #[] 0)).get? (hp.objs.size + 1) = some (accObj hp.objs.size #[] 0) := by heap_get
  have hd : ((hp.push emptyDict).push (accObj hp.objs.size #[] 0)).get? hp.objs.size = some emptyDict := by heap_get
  have k : ∀ b o, hp.get? b = some o → ((hp.push emptyDict).push (accObj hp.objs.size #[] 0)).get? b = some o := fun b o e => Heap.get?_push_of_some _ (Heap.get?_push_of_some _ e)
  have O₁ : Ok w ⟨(hp.push emptyDict).push (accObj hp.objs.size #[] 0), g, dd, tt, os⟩ := ⟨O.gd.keeps k, O.tabs.keeps fun b o _ e => k b o e, O.bare⟩
  refine init_ok O₁ (r.room 1) (Nat.le_succ_of_le big) big (Nat.ne_of_lt (Nat.lt_succ_self _)) hx hd fun s' n' O' S' Y' => ⟨rfl, ?_⟩
  refine h s' _ _ n' O' ⟨fun b o _ ht e => S'.keep b o ?_ ht (k b o e), Nat.le_trans ?_ S'.grow, S'.os⟩ Y' (Nat.le_succ _) (Nat.le_refl _)
  · intro q
    have := Heap.lt_size e
    simp only [List.mem_cons, List.not_mem_nil, or_false] at q
    rcases q with rfl | rfl
    · exact absurd this (Nat.not_lt.mpr (Nat.le_succ _))
    · exact absurd this (Nat.lt_irrefl _)
  · show hp.objs.size ≤ ((hp.push emptyDict).push (accObj hp.objs.size #[] 0)).objs.size
    rw [Heap.size_push, Heap.size_push]
    exact Nat.le_succ_of_le (Nat.le_succ _)
end
end Mine
end

section
open PySem PySem.W PySem.Calls PyProof.Rows
set_option maxRecDepth 100000
set_option maxHeartbeats 8000000
namespace Mine
structure FP where
  (h1 h2 h3 h4 h5 h6 : Int)
  (t1 t2 t3 t4 t5 t6 u1 u2 u3 u4 : Tok)
noncomputable abbrev fmDict (p : FP) (W : Int) (ws sp : Str) (ls a : Addr) : Obj := dictOf [⟨p.h1, .str (Str.ofString "_maxlen") p.t1, .int W p.u1⟩, ⟨p.h2, .str (Str.ofString "_continuation_ws") p.t2, .str ws p.u2⟩, ⟨p.h3, .str (Str.ofString "_continuation_ws_len") p.t3, .int ws.length p.u3⟩,
  ⟨p.h4, .str (Str.ofString "_splitchars") p.t4, .str sp p.u4⟩, ⟨p.h5, .str (Str.ofString "_lines") p.t5, .ref ls⟩, ⟨p.h6, .str (Str.ofString "_current_line") p.t6, .ref a⟩] 6
structure FmAt (h : Heap) (f fd ls a : Addr) (W : Int) (ws sp : Str) : Prop where
  lf : (221 : Nat) ≤ f
  lfd : (221 : Nat) ≤ fd
  of : h.get? f = some (instObj 94 fd)
  ofd : ∃ p, h.get? fd = some (fmDict p W ws sp ls a)
noncomputable def LinesAt (h : Heap) (ls : Addr) (lines : List Str) : Prop := (221 : Nat) ≤ ls ∧ ∃ l n, h.get? ls = some (listObj (strValues l).toArray n) ∧ l.map (·.1) = lines
section
variable {w : World} {A : Around} {E : Value → Shared → Prop} {s : Shared} {f fd ls a : Addr} {W : Int} {ws sp : Str} {p : FP}
theorem fmI {h : Heap} (e : h.get? f = some (instObj 94 fd)) (e' : h.get? fd = some (fmDict p W ws sp ls a)) : InstAt h f (instObj 94 fd) 94 (some (fmDict p W ws sp ls a)) := ⟨e, rfl, rfl, e'⟩
theorem fm_get {name : Str} {v : Value} {ex : Bool} {Q : Value → Shared → Prop} (X : (KK w).In s.heap) (I : InstAt s.heap f (instObj 94 fd) 94 (some (fmDict p W ws sp ls a)))
    (hf : findObj (KK w) 94 (some (fmDict p W ws sp ls a)) name = some (.value v)) (hh : handedIn v = true) (h : Q v { s with toks := s.toks + 1 }) : wpAny (model PG w) A (getAttr (.ref f) name ex) Q E s := by
  refine get_value (K := KK w) (C := 94) X I ?_ hf hh h
  · kernel_rfl
theorem fm_cur {ex : Bool} {Q : Value → Shared → Prop} (X : (KK w).In s.heap) (I : InstAt s.heap f (instObj 94 fd) 94 (some (fmDict p W ws sp ls a))) (h : Q (.ref a) { s with toks := s.toks + 1 }) : wpAny (model PG w) A (getAttr (.ref f) "_current_line" ex) Q E s := by
  refine fm_get X I ?_ ?_ h
  · kernel_rfl
  · rfl
theorem fm_lines {ex : Bool} {Q : Value → Shared → Prop} (X : (KK w).In s.heap) (I : InstAt s.heap f (instObj 94 fd) 94 (some (fmDict p W ws sp ls a))) (h : Q (.ref ls) { s with toks := s.toks + 1 }) : wpAny (model PG w) A (getAttr (.ref f) "_lines" ex) Q E s := by
  refine fm_get X I ?_ ?_ h
  · kernel_rfl
  · rfl
theorem fm_maxlen {ex : Bool} {Q : Value → Shared → Prop} (X : (KK w).In s.heap) (I : InstAt s.heap f (instObj 94 fd) 94 (some (fmDict p W ws sp ls a))) (h : Q (.int W p.u1) { s with toks := s.toks + 1 }) : wpAny (model PG w) A (getAttr (.ref f) "_maxlen" ex) Q E s := by
  refine fm_get X I ?_ ?_ h
  · kernel_rfl
  · rfl
theorem fm_split {ex : Bool} {Q : Value → Shared → Prop} (X : (KK w).In s.heap) (I : InstAt s.heap f (instObj 94 fd) 94 (some (fmDict p W ws sp ls a))) (h : Q (.str sp p.u4) { s with toks := s.toks + 1 }) : wpAny (model PG w) A (getAttr (.ref f) "_splitchars" ex) Q E s := by
  refine fm_get X I ?_ ?_ h
  · kernel_rfl
  · rfl
theorem fm_meth {name : Str} {q : Addr} {pl : Sem Bool} {Q : Value × List Value → Shared → Prop} (X : (KK w).In s.heap) (I : InstAt s.heap f (instObj 94 fd) 94 (some (fmDict p W ws sp ls a))) (h : Q (.ref q, [.ref f]) s)
    (hf : findIn (KK w) (.ref 94) name = some (some (.ref q)) := by kernel_rfl) (ht : typeIn (KK w) (.ref q) = some (.type "function") := by kernel_rfl)
    (hs : shadowIn (some (fmDict p W ws sp ls a)) name = some false := by rfl) :
    wpAny (model PG w) A (getMethod (.ref f) name pl) Q E s := by
  refine method_fn (K := KK w) (C := 94) X I ?_ ?_ hf ht hs h
  · kernel_rfl
  · kernel_rfl
theorem ne_pair {T U : Addr} {a1 a2 b1 b2 : Str} {t1 t2 u1 u2 : Tok} {Q : Value → Shared → Prop} (r : Rm A 1) (hT : s.heap.get? T = some (tupObj #[.str a1 t1, .str a2 t2])) (hU : s.heap.get? U = some (tupObj #[.str b1 u1, .str b2 u2]))
    (h : Q (.bool (!(a1 == b1 && a2 == b2))) s) : wpAny (model PG w) A (compareOp .NotEq (.ref T) (.ref U)) Q E s := by
  have hu : A.units < cLine := by have := r.un; (exact om24 this)
  show wpAny (model PG w) A (richCompare .NotEq (.ref T) (.ref U)) Q E s
  refine SeqAt.RcNeAt.tuples (items := #[.str a1 t1, .str a2 t2]) (items2 := #[.str b1 u1, .str b2 u2]) (e := fun j => match j with | 0 => a1 == b1 | _ => a2 == b2) ⟨_, hT, rfl, 0, rfl⟩ ⟨_, hU, rfl, 0, rfl⟩ hu (fun j h1 h2 => ?_) PG w E Q ?_
  · match j, h1, h2 with
    | 0, _, _ => exact SeqAt.EqAt.str_str _ _ _ _
    | 1, _, _ => exact SeqAt.EqAt.str_str _ _ _ _
    | j + 2, h1, _ => exact absurd h1 (by simp)
  · have : ((List.range (min (#[Value.str a1 t1, .str a2 t2] : Array Value).size (#[Value.str b1 u1, .str b2 u2] : Array Value).size)).all (fun j => match j with | 0 => a1 == b1 | _ => a2 == b2) && (#[Value.str a1 t1, .str a2 t2] : Array Value).size == (#[Value.str b1 u1, .str b2 u2] : Array Value).size) = (a1 == b1 && a2 == b2) := by
      show (List.all [0, 1] _ && true) = _
      simp
    rw [this]
    exact h
end
end Mine
end

section
open PySem PySem.W PySem.Calls PyProof.Rows
set_option maxRecDepth 100000
set_option maxHeartbeats 8000000
namespace Mine
section
variable {w : World} {A : Around} {E : Value → Shared → Prop} {s : Shared} {f fd ls a d : Addr} {W : Int} {ws sp : Str} {p : FP} {its : Array Value} {n : Nat} {i : Int} {ps : List (Str × Str)} {Q : Value → Shared → Prop}
theorem star_tup {T : Addr} {vs : Array Value} {Q : List Value → Shared → Prop} (hT : s.heap.get? T = some (tupObj vs)) (hz : vs.size ≤ 1000)
    (h : ∀ h', (∀ b o, s.heap.get? b = some o → h'.get? b = some o) → Q vs.toList { s with heap := h' }) : StarOf (model PG w) A E (.ref T) Q s := by
  have hT' : s.TypeIs (.ref T) "tuple" := ⟨_, hT, rfl⟩
  have z : wpAny (model PG w) A (collect (.ref T)) Q E s := wpAny_collect_seq T (.inr rfl) hT rfl rfl h (Nat.le_trans hz (by decide))
  unfold StarOf notIterableAtAll
  exact wpAny_bind (wpAny_specialOf hT' PySem.F.slot_tuple_iter.lookup (wpAny_pure ⟨rfl, z⟩))
theorem list_app {l : Addr} {vs : Array Value} {n : Nat} {x : Value} (hl : s.heap.get? l = some (listObj vs n)) (hsz : vs.size ≤ 100000)
    (h : ∀ s', Heap.SameBut l s.heap s'.heap → s'.heap.get? l = some (listObj (vs.push x) (n + 1)) → s'.gens = s.gens → s'.os = s.os → Q .none s') :
    wpAny (model PG w) A (call (.builtin "list.append") [.ref l, x]) Q E s := by
  refine wpAny_call_entry slot_list_append ⟨_, hl, rfl⟩ PySem.F.entry_list_append ?_ (PySem.F.args_list_append_2 _ _)
  show wpAny _ _ (updateSeq l (·.push x) >>= fun _ => ret .none) _ _ _
  have hz : vs.size ≤ sizeLine := Nat.le_trans hsz (by decide)
  refine wpAny_bind (wpAny_updateSeq (xs := vs) (n := n) hl rfl (wpAny_pure ⟨.none, rfl, h _ (Heap.SameBut.update ..) ?_ rfl rfl⟩))
  rw [Heap.get?_update_self _ hl rfl]
  simp [Obj.mapSeq]
theorem PairsAt.push {h : Heap} {v : Value} {q : Str × Str} (P : PairsAt h its ps) (hv : Pair h v q) : PairsAt h (its.push v) (ps ++ [q]) := by
  refine ⟨by simp [P.size], fun j r hr => ?_⟩
  rcases Nat.lt_trichotomy j ps.length with hj | hj | hj
  · rw [List.getElem?_append_left hj] at hr
    obtain ⟨u, hu, e⟩ := P.at_ j r hr
    refine ⟨u, ?_, e⟩
    rw [Array.getElem?_push_lt (by rw [P.size]; exact hj)]
    rw [Array.getElem?_eq_getElem (by rw [P.size]; exact hj)] at hu
    exact hu
  · subst hj
    rw [List.getElem?_append_right (Nat.le_refl _), Nat.sub_self] at hr
    cases hr
    exact ⟨v, by rw [← P.size]; simp, hv⟩
  · rw [List.getElem?_append_right (Nat.le_of_lt hj)] at hr
    have : [q][j - ps.length]? = none := List.getElem?_eq_none (by simp; (exact om25 hj))
    rw [this] at hr; cases hr
theorem PairsAt.pop {h : Heap} {q : Str × Str} (P : PairsAt h its (ps ++ [q])) : ∃ its' v, its = its'.push v ∧ PairsAt h its' ps ∧ Pair h v q := by
  have hs : its.size = ps.length + 1 := by rw [P.size]; simp
  obtain ⟨v, hv, pv⟩ := P.at_ ps.length q (by simp)
  refine ⟨its.pop, v, ?_, ⟨by simp [hs], fun j r hr => ?_⟩, pv⟩
  · have h1 := Array.getElem?_eq_some_iff.mp hv
    obtain ⟨h1, h2⟩ := h1
    apply Array.ext
    · simp [hs]
    · intro j hj1 hj2
      rw [Array.getElem_push]
      split
      · simp
      · have : j = ps.length := by simp [hs] at *; (exact om26 hj1 (by assumption))
        subst this; exact h2
  · have hj : j < ps.length := (List.getElem?_eq_some_iff.mp hr).1
    obtain ⟨u, hu, e⟩ := P.at_ j r (by rw [List.getElem?_append_left hj]; exact hr)
    refine ⟨u, ?_, e⟩
    rw [Array.getElem?_pop, if_pos (by (exact om27 hs hj))]
    exact hu
theorem PairsAt.nil {h : Heap} (P : PairsAt h its []) : its = #[] := Array.eq_empty_of_size_eq_zero P.size
theorem PairsAt.st {ws : List Addr} {s' : Shared} (P : PairsAt s.heap its ps) (S : St ws s s') (hw : ∀ b ∈ ws, ∀ vs, s.heap.get? b ≠ some (tupObj vs)) : PairsAt s'.heap its ps := by
  refine ⟨P.size, fun j q hq => ?_⟩
  obtain ⟨v, hv, T, t1, t2, rfl, hT, e⟩ := P.at_ j q hq
  exact ⟨_, hv, T, t1, t2, rfl, hT, S.keep T _ (fun hb => hw T hb _ e) (not_tab hT) e⟩
theorem fm_cur' {g : Heap} {wss : List Addr} {s₀ : Shared} {L : Addr} {m : Str → Option Value} {news : List (Addr × Obj)} {x : Str} {pos pos' : Pos} {cn : Str} {cs : Scope} {fa : Addr} {ccd : Value} {cl : List (Str × Addr)} (c : Cx w g wss s₀ L m news s) (hx : m x = some (.ref f)) (gf : g.get? f = some (instObj 94 fd)) (gfd : g.get? fd = some (fmDict p W ws sp ls a))
    (h : ∀ s', Cx w g wss s₀ L m news s' → s'.heap = s.heap → Q (.ref a) s') (hk : cs.kind = .function := by rfl) (hx' : (envX cn cs L fa ccd cl).kindOf x = some .local := by rfl) (hd : (x == ("__debug__" : Str)) = false := by decide) :
    wpAny (model PG w) A (eval (.Attribute (.Name x pos) "_current_line" pos') (envX cn cs L fa ccd cl)) Q E s := by
  refine Attribute_name ?_
  refine c_name c hx ?_ hk hx' hd
  exact fm_cur c.X (fmI (c.base gf) (c.base gfd)) (h _ (c.ext (s' := { s with toks := s.toks + 1 }) (fun _ _ e => e) rfl rfl) rfl)
end
end Mine
end

section
open PySem PySem.W PySem.Calls PyProof.Rows
set_option maxRecDepth 100000
set_option maxHeartbeats 8000000
namespace Mine
theorem enterC {prog : Program} {w : World} {A : Around} {s : Shared} {R : Result → Shared → Prop}
    {name qual : Str} {params : Arguments} {body : List Stmt} {scope : Scope} {cl : List (Str × Addr)} {dV kV doc pm cdv ct oc : Value} {an od : Option Addr} {osl : Array (Option Value)} {f : Addr} {args : List Value} {binds : List (Str × Value)}
    (own : List (Addr × Obj)) (O : Ok w s) (hroom : A.depth < recursionLimit)
    (hown : ∀ p ∈ own, (221 : Nat) ≤ p.1 ∧ s.heap.get? p.1 = some p.2)
    (ho : (hdz.heap_242 w.params).lookup f = some ⟨oc, od, .func (fnX name qual params body scope cl dV kV doc pm an cdv ct), osl⟩) (hf : (!(tabA.contains f)) = true) (hcd : codeIn (KK w) cdv qual = true)
    (hbind : BindsTo s (fnX name qual params body scope cl dV kV doc pm an cdv ct) ⟨args, []⟩ binds) (hloc : ∀ y ∈ binds, scope.names.lookup y.1 = some .local)
    (hcell : ∀ x ∈ scope.names, x.2 ≠ .cell) (hco : scope.isCoroutine = false) (hgen : scope.isGenerator = false) (hk : scope.kind = .function)
    (h : ∀ g L h₁, Bg w g (own.map (·.1)) s → (221 : Nat) ≤ L → s.heap.objs.size = L → Tabs h₁ → Fr g L h₁ (fun y => binds.reverse.lookup y) → News g L h₁ own →
      wpAny (model prog w) (A.deeper (envX qual scope L f cdv cl)) (execs body (envX qual scope L f cdv cl))
        (fun fl s' => R (.ok (.ret (match fl with | .ret v => v | _ => .none))) s') (fun _ _ => False) { s with heap := h₁, toks := s.toks + binds.length }) :
    codeAny (model prog w) A (.call (.ref f) ⟨args, []⟩) R s := by
  obtain ⟨G, tp, bare⟩ := O
  refine (codeAny_call_def (fd := fnX name qual params body scope cl dV kV doc pm an cdv ct) (body := body) (binds := binds) hroom (G.look ho hf) rfl G.lim (codeRec_of G.X hcd) rfl hbind hcell hloc (fun h₁ hns hk₁ => ?_) hco hgen hk)
  obtain ⟨B, big⟩ := base_of G hown
  exact wpAny_mono (h _ _ h₁ B big rfl (tp.keeps fun b o _ e => hk₁ b o e) ⟨hns, fun b o e => hk₁ b o (B.of_ b o e), Nat.le_of_eq (hideAll_size _ _)⟩
    (fun q hq => ⟨hk₁ _ _ (hown q hq).2, Nat.ne_of_lt (Heap.lt_size (hown q hq).2), B.own _ (List.mem_map_of_mem hq)⟩)) (fun fl s' hq => hq) fun _ _ e => e.elim

theorem c_enterC {prog : Program} {w : World} {A : Around} {s : Shared} {R : Result → Shared → Prop}
    {name qual : Str} {params : Arguments} {body : List Stmt} {scope : Scope} {cl : List (Str × Addr)} {dV kV doc pm cdv ct oc : Value} {an od : Option Addr} {osl : Array (Option Value)} {f : Addr} {args : List Value} {binds : List (Str × Value)}
    (own : List (Addr × Obj)) (O : Ok w s) (hroom : A.depth < recursionLimit)
    (hown : ∀ p ∈ own, (221 : Nat) ≤ p.1 ∧ s.heap.get? p.1 = some p.2)
    (h : ∀ g L s₁, Cx w g (own.map (·.1)) s L (fun y => binds.reverse.lookup y) own s₁ →
      wpAny (model prog w) (A.deeper (envX qual scope L f cdv cl)) (execs body (envX qual scope L f cdv cl))
        (fun fl s' => R (.ok (.ret (match fl with | .ret v => v | _ => .none))) s') (fun _ _ => False) s₁)
    (ho : (hdz.heap_242 w.params).lookup f = some ⟨oc, od, .func (fnX name qual params body scope cl dV kV doc pm an cdv ct), osl⟩ := by k_is) (hf : (!(tabA.contains f)) = true := by rfl) (hcd : codeIn (KK w) cdv qual = true := by kernel_rfl)
    (hbind : BindsTo s (fnX name qual params body scope cl dV kV doc pm an cdv ct) ⟨args, []⟩ binds := by exact BindsTo.of_eq (by kernel_rfl)) (hloc : ∀ y ∈ binds, scope.names.lookup y.1 = some .local := by exact locs (by kernel_rfl))
    (hcell : ∀ x ∈ scope.names, x.2 ≠ .cell := by decide) (hco : scope.isCoroutine = false := by rfl) (hgen : scope.isGenerator = false := by rfl) (hk : scope.kind = .function := by rfl)
    :
    codeAny (model prog w) A (.call (.ref f) ⟨args, []⟩) R s := by
  have hbare := O.bare
  refine enterC own O hroom hown ho hf hcd hbind hloc hcell hco hgen hk fun g L h₁ B big hL tp F N => ?_
  exact h g L _ ⟨B, big, hL, F, N, tp, hbare, rfl, fun q hq => .inl (hown q hq).1⟩
theorem push_okC {prog : Program} {w : World} {A : Around} {s : Shared} {R : Result → Shared → Prop} {a d : Addr} {its : Array Value} {n : Nat} {i : Int} {f p : Value}
    (O : Ok w s) (hroom : A.depth < recursionLimit) (Y : AccAt s.heap a d its n i) (hsz : its.size ≤ 100000)
    (h : ∀ s' t, Ok w s' → St [a] s s' → AccAt s'.heap a d (its.push (.ref t)) (n + 1) i → s'.heap.get? t = some (tupObj #[f, p]) → (s.heap.objs.size : Nat) < t → R (.ok (.ret .none)) s') :
    codeAny (model prog w) A (.call (.ref 122) ⟨[.ref a, f, p], []⟩) R s := by
  have hne := Y.ne
  obtain ⟨la, ld, oa, hh, tk, t, od⟩ := Y
  refine c_enterC (binds := [("self", .ref a), ("fws", f), ("string", p)]) [(a, accObj d its n)] O hroom (own1 la oa) fun g L s₁ c => ?_
  have gd : g.get? d = some (accDict hh tk i t) := c.B.all d _ (by simp [hne]) (not_tab ld) od
  refine wpAny_execs_cons (wpAny_Expr (MethodCall_ (c_name c rfl ?_)))
  refine method_lb (K := KK w) (C := 178) c.X (accI (c.get (.head _)) (c.base gd)) (by kernel_rfl) (by kernel_rfl) (id := "list.append") (by kernel_rfl) mdesc_append (by rfl) ?_
  refine callWith_method1 (spliced_more (Tuple_ (spliced_more (c_name c rfl (spliced_more (c_name c rfl (spliced_none ?_)))))))
  refine c_tuple c fun s₂ u c₂ hu => ?_
  refine spliced_none ?_
  have lu : (s.heap.objs.size : Nat) < u := hu ▸ c.lt
  have hua : u ≠ a := fun e => absurd (Heap.lt_size oa) (by rw [← e]; exact Nat.lt_asymm lu)
  refine acc_append c₂.X (accI (c₂.get (.tail _ (.head _))) (c₂.base gd)) hsz fun s₃ hs₃ e₃ hg₃ ho₃ => ?_
  have c₃ := c₂.upd (Upd.tail hua (Upd.head (fun _ h => nomatch h))) la hs₃ e₃ hg₃ ho₃
  refine wpAny_execs_nil ?_
  exact h s₃ u c₃.ok c₃.st ⟨la, ld, e₃, hh, tk, t, c₃.base gd⟩ (c₃.get (.head _)) lu
section
variable {prog : Program} {w : World} {A : Around} {E : Value → Shared → Prop} {s : Shared} {K : Frag} {x C : Addr} {ox : Obj} {od : Option Obj}
theorem get_lm {name : Str} {f : Addr} {ex : Bool} {Q : Value → Shared → Prop} (X : K.In s.heap) (I : InstAt s.heap x ox C od) (hga : findIn K (.ref C) "__getattribute__" = some (some (.builtin "list.__getattribute__")))
    (hgt : findIn K (.ref C) "__getattr__" = some none) (hsub : subIn K (.ref C) (.type "list") = some true)
    (hf : findObj K C od name = some (.bind (.builtin "function.__get__") (.ref f))) (ht : typeIn K (.ref f) = some (.type "function")) (h : Q (.ref s.heap.objs.size) { s with heap := s.heap.push (methodObj (.ref f) (.ref x)), toks := s.toks + 1 }) : wpAny (model prog w) A (getAttr (.ref x) name ex) Q E s := by
  obtain ⟨hp, g, d, t, os⟩ := s
  have L0 := I.type (M := model prog w)
  have L1 := looks_findIn (M := model prog w) X hga
  have L2 := looks_findIn (M := model prog w) X hgt
  have L3 := looks_find (M := model prog w) X I hf
  unfold getAttr getAttrBy
  refine wpAny_bind (wpAny_mkText (wpAny_holding (wpAny_bind (L0.at (wpAny_bind (L1.at ?_))))))
  show wpAny _ _ (getAttrByItsOwn _ _ _ _ _ _) _ _ _
  unfold getAttrByItsOwn hookBefore
  refine wpAny_bind ?_
  show wpAny _ _ (typeLookup (.ref C) "__getattr__") _ _ _
  refine L2.at ?_
  refine wpAny_bind (wpAny_attempt (wpAny_holding ?_))
  unfold callGetattribute
  rw [if_neg (by simp [onTheHeap])]
  unfold boundAndCalled
  refine wpAny_bind (wpAny_of_eq (ga_bind _) ?_)
  show wpAny _ _ (call (.builtin "list.__getattribute__") (Value.ref x :: [Value.str name t])) _ _ _
  refine call_bi (owner := "list") (n := "__getattribute__") (by decide +kernel) (.inr (by decide +kernel)) (by decide +kernel) (inst_is (K := K) X (s := ⟨hp, g, d, t + 1, os⟩) I hsub) F.entry_list_ga (F.args_list_getattribute_2 _ _) ?_
  refine wpAny_bind (wpAny_pure (wpAny_bind (wpAny_pure (wpAny_bind (L0.at (wpAny_bind (L3.at ?_)))))))
  dsimp only
  show wpAny _ _ (holding [.ref f] (call (.builtin "function.__get__") [.ref f, .ref x, .ref C]) >>= ret) _ _ _
  refine wpAny_bind (wpAny_holding (wpAny_call (fn_get (K := K) (s := ⟨hp, g, d, t + 1, os⟩) X ht ?_)))
  refine wpAny_pure ⟨_, rfl, ?_⟩
  exact handed_on rfl h
theorem callWith_SM {q f : Addr} {self : Value} {e : Expr} {p pos : Pos} {env : Env} {Q : Value → Shared → Prop} (hf : fnIn K f = true) (h : wpAny (model prog w) A (eval e env) (fun v s₁ => StarOf (model prog w) A E v (fun vs s₂ => MethP K q f self s₂.heap ∧ codeAny (model prog w) A (.call (.ref f) ⟨self :: vs, []⟩) (fun r s' => match r with | .ok (.ret v) => Q v s' | .ok _ => False | .error e => E e s') s₂) s₁) E s)
    (he : starEach [.Starred e p] env = [(true, eval e env)] := by rfl) :
    wpAny (model prog w) A (callWith pos (.ref q) [] (backTo pos (starEach [.Starred e p] env)) []) Q E s := by
  rw [he]
  refine ks_call rfl (keeps_M (self := self) hf) (ks_lone (wpAny_mono h (fun v s₁ h₁ => ?_) fun _ _ x => x))
  unfold StarOf at h₁ ⊢
  refine wpAny_mono h₁ (fun b s₂ h₂ => ⟨h₂.1, wpAny_mono h₂.2 (fun vs s₃ h₃ => ⟨h₃.1, ?_⟩) fun _ _ x => x⟩) fun _ _ x => x
  exact wpAny_call (method_call h₃.1.1 h₃.2)
end
end Mine
end

section
open PySem PySem.W PySem.Calls PyProof.Rows
set_option maxRecDepth 100000
set_option maxHeartbeats 8000000
namespace Mine
section
variable {w : World} {g : Heap} {ws : List Addr} {s₀ s s' : Shared} {L : Addr} {m m' : Str → Option Value} {news news' : List (Addr × Obj)}
variable {prog : Program} {A : Around} {E : Value → Shared → Prop} {cn : Str} {cs : Scope} {a : Addr} {ccd : Value} {cl : List (Str × Addr)}
theorem Cx.neL (c : Cx w g ws s₀ L m news s) {T : Addr} {vs : Array Value} (e : s.heap.get? T = some (tupObj vs)) : T ≠ L := by
  rintro rfl
  obtain ⟨oL, es, ep, h1, h2, _⟩ := c.F.ns
  rw [e] at h1; cases h1; cases h2
theorem Cx.pairs (c : Cx w g ws s₀ L m news s) {its : Array Value} {ps : List (Str × Str)} (P : PairsAt s.heap its ps) (k : ∀ b o, b ≠ L → s.heap.get? b = some o → s'.heap.get? b = some o) : PairsAt s'.heap its ps := by
  refine ⟨P.size, fun j q hq => ?_⟩
  obtain ⟨v, hv, T, t1, t2, rfl, hT, e⟩ := P.at_ j q hq
  exact ⟨_, hv, T, t1, t2, rfl, hT, k T _ (c.neL e) e⟩
theorem c_storeK {x : Str} {v : Value} {Q : Unit → Shared → Prop} (c : Cx w g ws s₀ L m news s)
    (h : ∀ s', Cx w g ws s₀ L (fun y => if y = x then some v else m y) news s' → (∀ b o, b ≠ L → s.heap.get? b = some o → s'.heap.get? b = some o) → Q () s')
    (hk : cs.kind = .function := by rfl) (hx : (envX cn cs L a ccd cl).kindOf x = some .local := by rfl) : wpAny (model prog w) A (storeName (envX cn cs L a ccd cl) x v) Q E s :=
  wpAny_storeName_local hx c.F.ns (fun h' hn hs => h _ ⟨c.B, c.big, c.hL, c.F.set hn hs, c.N.set hs, c.T.keeps fun b o hb e => (hs.2 b fun q => not_tab c.big ((show b = L from q) ▸ hb)).trans e, c.bare, c.os, c.hi⟩ fun b o hb e => hs.extBut b o hb e) (by show (cs.kind == .class || (cs.kind == .module && L != mainGlobals)) = false; rw [hk]; rfl)
theorem c_tupleK {vs : List Value} {Q : Value → Shared → Prop} (c : Cx w g ws s₀ L m news s) (h : ∀ s' t, Cx w g ws s₀ L m news s' → (∀ b o, s.heap.get? b = some o → s'.heap.get? b = some o) → s'.heap.get? t = some (tupObj vs.toArray) → (s.heap.objs.size : Nat) = t → Q (.ref t) s') (hsz : vs.length ≤ sizeLine := by size_fits) :
    wpAny (model prog w) A (newTuple vs) Q E s :=
  wpAny_newObj_type (h _ _ (c.ext (s' := { s with heap := s.heap.push { cls := .type "tuple", data := .seq vs.toArray } }) (fun _ _ e => Heap.get?_push_of_some _ e) rfl rfl) (fun _ _ e => Heap.get?_push_of_some _ e) (Heap.get?_push_size _ rfl) rfl) (by show vs.toArray.size ≤ sizeLine; rw [List.size_toArray]; exact hsz)
theorem c_strK {x : Str} {k : Nat} {pos : Pos} {env : Env} {Q : Value → Shared → Prop} (c : Cx w g ws s₀ L m news s) (h : ∀ s' t, Cx w g ws s₀ L m news s' → s'.heap = s.heap → Q (.str x t) s') :
    wpAny (model prog w) A (eval (.Constant (.str x) k pos) env) Q E s := fun _ _ _ => h _ _ (c.ext (fun _ _ e => e) rfl rfl) rfl
theorem c_intK {i : Int} {k : Nat} {pos : Pos} {env : Env} {Q : Value → Shared → Prop} (c : Cx w g ws s₀ L m news s) (h : ∀ s' t, Cx w g ws s₀ L m news s' → s'.heap = s.heap → Q (.int i t) s') :
    wpAny (model prog w) A (eval (.Constant (.int i) k pos) env) Q E s := wpAny_Constant_int (h _ _ (c.ext (fun _ _ e => e) rfl rfl) rfl)
end
theorem StarCall_ {M : Model} {A : Around} {E : Value → Shared → Prop} {s : Shared} {env : Env} {o e : Expr} {name : Str} {apos pos p : Pos} {Q : Value → Shared → Prop}
    (h : wpAny M A (eval o env) (fun ov s₁ => wpAny M A (getAttr ov name true) (fun f s₂ => wpAny M A (callWith pos f [] (backTo pos (starEach [.Starred e p] env)) []) Q E s₂) E s₁) E s)
    (hb : attributeBase o name env (eval o env) = eval o env := by rfl) (he : starEach [.Starred e p] env = [(true, eval e env)] := by rfl) : wpAny M A (eval (.Call (.Attribute o name apos) [.Starred e p] [] pos) env) Q E s := by
  rw [arm_eval_Call, hb]
  refine wpAny_bind (wpAny_mono h (fun ov s₁ h₁ => wpAny_bind (wpAny_standAt ?_)) fun _ _ x => x)
  unfold methodCall
  rw [he]
  rw [he] at h₁
  refine wpAny_bind (wpAny_holding ?_)
  show wpAny M A (do pure (← getAttr ov name true, [])) _ _ _
  refine wpAny_bind (wpAny_mono h₁ (fun f s₂ h₂ => wpAny_pure (wpAny_bind (wpAny_pure h₂))) fun _ _ x => x)
section
variable {w : World} {A : Around} {E : Value → Shared → Prop} {s : Shared} {f fd ls a d : Addr} {W : Int} {ws sp : Str} {its : Array Value} {n : Nat} {i : Int} {ps : List (Str × Str)} {lines : List Str} {Q : Value → Shared → Prop}
theorem fm_lines' {p : FP} {g : Heap} {wss : List Addr} {s₀ : Shared} {L : Addr} {m : Str → Option Value} {news : List (Addr × Obj)} {x : Str} {pos pos' : Pos} {cn : Str} {cs : Scope} {fa : Addr} {ccd : Value} {cl : List (Str × Addr)} (c : Cx w g wss s₀ L m news s) (hx : m x = some (.ref f)) (gf : g.get? f = some (instObj 94 fd)) (gfd : g.get? fd = some (fmDict p W ws sp ls a))
    (h : ∀ s', Cx w g wss s₀ L m news s' → s'.heap = s.heap → Q (.ref ls) s') (hk : cs.kind = .function := by rfl) (hx' : (envX cn cs L fa ccd cl).kindOf x = some .local := by rfl) (hd : (x == ("__debug__" : Str)) = false := by decide) :
    wpAny (model PG w) A (eval (.Attribute (.Name x pos) "_lines" pos') (envX cn cs L fa ccd cl)) Q E s := by
  refine Attribute_name ?_
  refine c_name c hx ?_ hk hx' hd
  exact fm_lines c.X (fmI (c.base gf) (c.base gfd)) (h _ (c.ext (s' := { s with toks := s.toks + 1 }) (fun _ _ e => e) rfl rfl) rfl)
theorem PairsAt.high' {h h' : Heap} (P : PairsAt h its ps) (k : ∀ b o vs, o = tupObj vs → (221 : Nat) ≤ b → h.get? b = some o → h'.get? b = some o) : PairsAt h' its ps := by
  refine ⟨P.size, fun j p hp => ?_⟩
  obtain ⟨v, hv, T, t1, t2, rfl, hT, e⟩ := P.at_ j p hp
  exact ⟨_, hv, T, t1, t2, rfl, hT, k T _ _ rfl hT e⟩
theorem empty_str : Str.ofString "" = ofL [] := by decide +kernel
theorem pop_any (O : Ok w s) (hroom : A.depth + 1 < recursionLimit) (Y : AccAt s.heap a d its n i) (Ps : PairsAt s.heap its ps) (hlen : ps.length ≤ 1000)
    (h : ∀ s' T q ps0 its0 n0 t1 t2, Ok w s' → St [a] s s' → AccAt s'.heap a d its0 n0 i → PairsAt s'.heap its0 ps0 → s'.heap.get? T = some (tupObj #[.str q.1 t1, .str q.2 t2]) → (221 : Nat) ≤ T →
      (ps = ps0 ++ [q] ∨ (ps = [] ∧ ps0 = [] ∧ q = (ofL [], ofL []))) → (∀ v ∈ its0.toList, v ∈ its.toList) → Q (.ref T) s') :
    wpAny (model PG w) A (call (.ref 138) [.ref a]) Q E s := by
  rcases List.eq_nil_or_concat ps with e | ⟨ps0, q, e⟩
  · subst e
    have e0 := Ps.nil
    subst e0
    refine pop0_ok O hroom Y fun s' T t1 t2 O' S' e' lt => ?_
    have big : (221 : Nat) ≤ s.heap.objs.size := (base_of (own := []) O.gd no_own).2
    obtain ⟨la, ld, oa, hh, tk, t, od⟩ := Y
    rw [empty_str] at e'
    exact h s' T (ofL [], ofL []) [] #[] n t1 t2 O' (S'.sub (fun _ h => nomatch h)) ⟨la, ld, S'.keep a _ (fun h => nomatch h) (not_tab la) oa, hh, tk, t, S'.keep d _ (fun h => nomatch h) (not_tab ld) od⟩ ⟨rfl, fun j p hp => by simp at hp⟩ e' (Nat.le_of_lt (Nat.lt_of_le_of_lt big lt)) (.inr ⟨rfl, rfl, rfl⟩) (fun _ h => h)
  · rw [List.concat_eq_append] at e
    subst e
    obtain ⟨its', v, rfl, P', T, t1, t2, rfl, hT, eT⟩ := Ps.pop
    have hs : its'.size ≤ 100000 := by rw [P'.size]; simp at hlen; (exact om28 hlen)
    have na : ∀ b ∈ [a], ∀ vs, s.heap.get? b ≠ some (tupObj vs) := fun b hb vs e => by
      rw [List.mem_singleton] at hb; subst hb; rw [Y.oa] at e; cases e
    refine pop_ok O hroom Y hs fun s' O' S' Y' => ?_
    exact h s' T q ps0 its' (n + 1) t1 t2 O' S' Y' (P'.st S' na) (S'.keep T _ (fun hb => na T hb _ eT) (not_tab hT) eT) hT (.inl (by simp)) (fun v h => by rw [Array.toList_push]; exact List.mem_append_left _ h)
theorem newline_ok (O : Ok w s) (r : Rm A 8) (F : FmAt s.heap f fd ls a W ws sp) (Y : AccAt s.heap a d its n i) (Ps : PairsAt s.heap its ps) (Ls : LinesAt s.heap ls lines)
    (hi : 0 ≤ i ∧ i ≤ 1000) (hsz : sizes ps ≤ 100000) (hlen : ps.length ≤ 1000) (hll : lines.length ≤ 1000)
    (hlast : ∀ q, ps.getLast? = some q → q.2 ≠ ofL []) (hpos : 0 < i + sizes ps) (hws : i ≠ 0 ∨ Txt.isspace (ofL (flat ps)) = false)
    (h : ∀ s' n', Ok w s' → St [a, d, ls] s s' → AccAt s'.heap a d #[] n' 0 → LinesAt s'.heap ls (lines ++ [ofL (flat ps)]) → Q .none s') :
    wpAny (model PG w) A (call (.ref 56) [.ref f]) Q E s := by
  have hne := Y.ne
  obtain ⟨la, ld, oa, hh, tk, t, od⟩ := Y
  obtain ⟨lf, lfd, of, p, ofd⟩ := F
  obtain ⟨lls, ll, nl, ols, hl⟩ := Ls
  have dls : ls ≠ a := fun e => by rw [e, oa] at ols; cases ols
  have dld : ls ≠ d := fun e => by rw [e, od] at ols; have := congrArg (fun o => o.map Obj.data) ols; cases this
  have fa : f ≠ a := fun e => by rw [e, oa] at of; have := congrArg (fun o => o.map Obj.data) of; cases this
  have fd' : f ≠ d := fun e => by rw [e, od] at of; have := congrArg (fun o => o.map Obj.data) of; cases this
  have fls : f ≠ ls := fun e => by rw [e, ols] at of; have := congrArg (fun o => o.map Obj.data) of; cases this
  have da : fd ≠ a := fun e => by rw [e, oa] at ofd; have := congrArg (fun o => o.map Obj.data) ofd; cases this
  have dd : fd ≠ d := fun e => by
    rw [e, od] at ofd
    have := congrArg (fun o => o.map fun (x : Obj) => match x.data with | .dict es _ => es.size | _ => 0) ofd
    cases this
  have dl : fd ≠ ls := fun e => by rw [e, ols] at ofd; have := congrArg (fun o => o.map Obj.data) ofd; cases this
  have own3 : ∀ q ∈ [(a, accObj d its n), (d, accDict hh tk i t), (ls, listObj (strValues ll).toArray nl)], (221 : Nat) ≤ q.1 ∧ s.heap.get? q.1 = some q.2 := fun q hq => by
    cases hq with | head => exact ⟨la, oa⟩ | tail _ hq => cases hq with | head => exact ⟨ld, od⟩ | tail _ hq => cases hq with | head => exact ⟨lls, ols⟩ | tail _ h => cases h
  refine c_enter (binds := [("self", .ref f)]) [(a, accObj d its n), (d, accDict hh tk i t), (ls, listObj (strValues ll).toArray nl)] O r.room own3 fun g L s₁ c => ?_
  have gf : g.get? f = some (instObj 94 fd) := c.B.all f _ (by simp [fa, fd', fls]) (not_tab lf) of
  have gfd : g.get? fd = some (fmDict p W ws sp ls a) := c.B.all fd _ (by simp [da, dd, dl]) (not_tab lfd) ofd
  refine wpAny_execs_cons ?_
  refine wpAny_Assign_Name ?_
  refine MethodCall_ ?_
  refine fm_cur' c rfl gf gfd fun s₂ c₂ e₂ => ?_
  refine acc_meth (f := 138) c₂.X (accI (c₂.get (.head _)) (c₂.get (.tail _ (.head _)))) ?_
  refine callWith_K0 (K := KK w) c₂.X (by kernel_rfl) ?_
  have P₁ : PairsAt g its ps := Ps.high' fun b o vs e hb eo => c.B.all b _ (fun q => by
    subst e
    simp only [List.map_cons, List.map_nil, List.mem_cons, List.not_mem_nil, or_false] at q
    rcases q with rfl | rfl | rfl
    · rw [oa] at eo; cases eo
    · rw [od] at eo; have := congrArg (fun o => o.map Obj.data) eo; cases this
    · rw [ols] at eo; have := congrArg (fun o => o.map Obj.cls) eo; simp at this) (not_tab hb) eo
  · have P₂ : PairsAt s₂.heap its ps := P₁.keeps fun b o e => c₂.base e
    refine pop_any c₂.ok (r.deep.room 1) ⟨la, ld, c₂.get (.head _), hh, tk, t, c₂.get (.tail _ (.head _))⟩ P₂ hlen fun s₃ T q ps0 its0 n0 t1 t2 O₃ S₃ Y₃ P₃ eT hT hcase _ => ?_
    have c₃ := c₂.call1 (Upd.head (fun x hx => by
      cases hx with | head => exact hne | tail _ hx => cases hx with | head => exact dls | tail _ h => cases h)) S₃ O₃ Y₃.oa
    refine c_storeK c₃ fun s₄ c₄ k₄ => ?_
    have P₄ := c₃.pairs P₃ k₄
    have eT₄ := k₄ T _ (c₃.neL eT) eT
    refine wpAny_execs_cons (wpAny_If (wpAny_isTrue_Compare1 ?_))
    refine c_name c₄ rfl ?_
    refine Tuple_ (spliced_more (c_strK c₄ fun s₅ t₅ c₅ e₅ => spliced_more (c_strK c₅ fun s₆ t₆ c₆ e₆ => spliced_none ?_)))
    refine c_tupleK c₆ fun s₇ u c₇ k₇ eu _ => ?_
    have eT₇ : s₇.heap.get? T = some (tupObj #[.str q.1 t1, .str q.2 t2]) := k₇ T _ (by rw [e₆, e₅]; exact eT₄)
    have hq : (q.1 == (Str.ofString " ") && q.2 == (Str.ofString "")) = false := by
      rcases hcase with e | ⟨_, _, rfl⟩
      · have := hlast q (by rw [e]; simp)
        rw [empty_str, beq_eq_false_iff_ne.mpr this, Bool.and_false]
      · decide +kernel
    refine ne_pair r.deep.le eT₇ eu ?_
    refine wpAny_truthy_bool ?_
    have hq' : (!(q.1 == (Str.ofString " ") && q.2 == (Str.ofString ""))) = true := by
      have : ((Str.ofString " ")) = Str.ofString " " := by decide +kernel
      rw [this]
      have : ((Str.ofString "")) = Str.ofString "" := by decide +kernel
      rw [this, hq]; rfl
    rw [hq', if_pos rfl]
    refine wpAny_execs_cons ?_
    refine wpAny_Expr ?_
    refine StarCall_ ?_
    refine fm_cur' c₇ rfl gf gfd fun s₈ c₈ e₈ => ?_
    refine get_lm (K := KK w) (C := 178) (f := 122) c₈.X (accI (c₈.get (.head _)) (c₈.get (.tail _ (.head _)))) ?_ ?_ ?_ ?_ ?_ ?_
    · kernel_rfl
    · kernel_rfl
    · kernel_rfl
    · kernel_rfl
    · kernel_rfl
    have c₈' := c₈.ext (s' := { s₈ with heap := s₈.heap.push (methodObj (.ref 122) (.ref a)), toks := s₈.toks + 1 }) (fun _ _ e => Heap.get?_push_of_some _ e) rfl rfl
    refine callWith_SM (K := KK w) (self := .ref a) (f := 122) ?_ ?_
    · kernel_rfl
    refine c_name c₈' rfl ?_
    have eT₈ : s₈.heap.get? T = some (tupObj #[.str q.1 t1, .str q.2 t2]) := by rw [e₈]; exact eT₇
    refine star_tup (Heap.get?_push_of_some _ eT₈) (by simp) fun h₉ k₉ => ?_
    have c₉ := c₈'.ext (s' := { s₈ with heap := h₉, toks := s₈.toks + 1 }) k₉ rfl rfl
    refine ⟨⟨k₉ _ _ (Heap.get?_push_size _ rfl), c₉.X⟩, ?_⟩
    have P₉ : PairsAt h₉ its0 ps0 := (P₄.keeps fun b o e => k₉ b o (Heap.get?_push_of_some _ (show s₈.heap.get? b = some o by rw [e₈]; exact k₇ b o (by rw [e₆, e₅]; exact e))))
    have hl0 : ps0.length ≤ 1000 := by
      rcases hcase with e | ⟨_, rfl, _⟩
      · rw [e] at hlen; simp at hlen; (exact Nat.le_succ_of_le (by assumption))
      · simp
    refine push_okC c₉.ok (show A.depth + 1 < recursionLimit from r.room 1) ⟨la, ld, c₉.get (.head _), hh, tk, t, c₉.get (.tail _ (.head _))⟩ (by rw [P₉.size]; (exact om29 hl0)) fun s₁₀ T' O₁₀ S₁₀ Y₁₀ eT' ltT => ?_
    have P₁₀ : PairsAt s₁₀.heap (its0.push (.ref T')) (ps0 ++ [q]) := by
      have big : (221 : Nat) ≤ T' := by
        have h1 : (s.heap.objs.size : Nat) < h₉.objs.size := c₉.lt
        have h2 : (221 : Nat) ≤ s.heap.objs.size := (base_of (own := []) O.gd no_own).2
        exact Nat.le_of_lt (Nat.lt_of_le_of_lt h2 (Nat.lt_trans h1 ltT))
      refine (P₉.st S₁₀ fun b hb vs e => ?_).push ⟨T', t1, t2, rfl, big, eT'⟩
      rw [List.mem_singleton] at hb; subst hb
      rw [c₉.get (.head _)] at e; cases e
    have c₁₀ := c₉.call1 (Upd.head (fun x hx => by
      cases hx with | head => exact hne | tail _ hx => cases hx with | head => exact dls | tail _ h => cases h)) S₁₀ O₁₀ Y₁₀.oa
    have hflat : flat (ps0 ++ [q]) = flat ps := by
      rcases hcase with e | ⟨e, rfl, rfl⟩
      · rw [e]
      · rw [e]; rfl
    have hsizes : sizes (ps0 ++ [q]) = sizes ps := by rw [← flat_length, ← flat_length, hflat]
    have hl1 : (ps0 ++ [q]).length ≤ 1001 := by simp; assumption
    generalize hps1 : ps0 ++ [q] = ps1 at *
    generalize hits1 : its0.push (.ref T') = its1 at *
    refine wpAny_execs_nil ?_
    refine wpAny_execs_cons ?_
    refine wpAny_If (wpAny_isTrue_Compare1 ?_)
    refine Call_ ?_
    refine c_built c₁₀ (v := .builtin "len") ?_ ?_ ?_ ?_
    · kernel_rfl
    · kernel_rfl
    · decide
    refine PyProof.Rows.callWith_builtin1 ?_
    refine spliced_more ?_
    refine fm_cur' c₁₀ rfl gf gfd fun s₁₁ c₁₁ e₁₁ => ?_
    refine spliced_none ?_
    refine len_call (ps := ps1) c₁₁.ok r.deep.le ⟨la, ld, c₁₁.get (.head _), hh, tk, t, c₁₁.get (.tail _ (.head _))⟩ (by rw [e₁₁]; exact P₁₀) (by (exact om30 hi)) (by (exact om31 hsz hsizes)) fun s₁₂ t₁₂ O₁₂ S₁₂ => ?_
    have c₁₂ := c₁₁.call0 S₁₂ O₁₂
    have P₁₂ : PairsAt s₁₂.heap its1 ps1 := PairsAt.st (s := s₁₁) (by rw [e₁₁]; exact P₁₀) S₁₂ fun _ h => nomatch h
    refine c_intK c₁₂ fun s₁₃ t₁₃ c₁₃ e₁₃ => ?_
    refine gt_int (wpAny_truthy_bool ?_)
    rw [decide_eq_true (show (0 : Int) < i + sizes ps1 by (exact om32 hpos hsizes)), if_pos rfl]
    refine wpAny_execs_cons ?_
    refine wpAny_If ?_
    refine isTrue_and ?_
    refine isTrue_plain ?_
    refine MethodCall_ ?_
    refine fm_cur' c₁₃ rfl gf gfd fun s₁₄ c₁₄ e₁₄ => ?_
    refine acc_meth (f := 167) c₁₄.X (accI (c₁₄.get (.head _)) (c₁₄.get (.tail _ (.head _)))) ?_
    refine callWith_K0 (K := KK w) c₁₄.X (by kernel_rfl) ?_
    have P₁₄ : PairsAt s₁₄.heap its1 ps1 := by rw [e₁₄, e₁₃]; exact P₁₂
    refine onlyws_ok (ps := ps1) c₁₄.ok r.deep.le ⟨la, ld, c₁₄.get (.head _), hh, tk, t, c₁₄.get (.tail _ (.head _))⟩ P₁₄ (by (exact om30 hi)) (by (exact om31 hsz hsizes)) (by (exact om33 hl1)) fun s₁₅ O₁₅ S₁₅ => ?_
    have c₁₅ := c₁₄.call0 S₁₅ O₁₅
    have P₁₅ : PairsAt s₁₅.heap its1 ps1 := PairsAt.st P₁₄ S₁₅ fun _ h => nomatch h
    refine wpAny_truthy_bool ?_
    have hb : (i == 0 && (sizes ps1 == 0 || Txt.isspace (ofL (flat ps1)))) = false := by
      rcases hws with e | e
      · rw [beq_eq_false_iff_ne.mpr e]; rfl
      · rw [hflat, e, Bool.or_false]
        cases hz : (i == 0) with
        | false => rfl
        | true =>
          have : i = 0 := eq_of_beq hz
          rw [Bool.true_and]
          exact beq_eq_false_iff_ne.mpr (by (exact om34 hsz hpos hsizes this))
    rw [hb, if_neg (by decide), if_neg (by decide)]
    refine wpAny_execs_cons ?_
    refine wpAny_Expr ?_
    refine MethodCall_ ?_
    refine fm_lines' c₁₅ rfl gf gfd fun s₁₆ c₁₆ e₁₆ => ?_
    have els := c₁₆.get (.tail _ (.tail _ (.head _)))
    refine getMethod_list_append els rfl rfl ?_
    refine callWith_method1 ?_
    refine spliced_more ?_
    refine Call_ ?_
    refine c_built c₁₆ (v := .type "str") ?_ ?_ ?_ ?_
    · kernel_rfl
    · kernel_rfl
    · decide
    refine callWith_type_1 ?_
    refine fm_cur' c₁₆ rfl gf gfd fun s₁₇ c₁₇ e₁₇ => ?_
    refine str_call (ps := ps1) c₁₇.ok r.deep.le ⟨la, ld, c₁₇.get (.head _), hh, tk, t, c₁₇.get (.tail _ (.head _))⟩ (by rw [e₁₇, e₁₆]; exact P₁₅) (by (exact om31 hsz hsizes)) (by (exact om33 hl1)) fun s₁₈ t₁₈ O₁₈ S₁₈ => ?_
    have c₁₈ := c₁₇.call0 S₁₈ O₁₈
    refine spliced_none ?_
    have hll' : (strValues ll).toArray.size = lines.length := by rw [← hl]; simp [strValues]
    refine list_app (c₁₈.get (.tail _ (.tail _ (.head _)))) (by (exact om35 hll hll')) fun s₁₉ hs₁₉ e₁₉ hg₁₉ ho₁₉ => ?_
    have c₁₉ := c₁₈.upd (Upd.tail (Ne.symm dls) (Upd.tail (Ne.symm dld) (Upd.head (fun _ h => nomatch h)))) lls hs₁₉ e₁₉ hg₁₉ ho₁₉
    refine wpAny_execs_nil ?_
    refine wpAny_execs_nil ?_
    refine wpAny_execs_cons ?_
    refine wpAny_Expr ?_
    refine MethodCall_ ?_
    refine fm_cur' c₁₉ rfl gf gfd fun s₂₀ c₂₀ e₂₀ => ?_
    refine acc_meth (f := 160) c₂₀.X (accI (c₂₀.get (.head _)) (c₂₀.get (.tail _ (.head _)))) ?_
    refine callWith_K0 (K := KK w) c₂₀.X (by kernel_rfl) ?_
    refine reset0_ok c₂₀.ok (show A.depth + 1 < recursionLimit from r.room 1) ⟨la, ld, c₂₀.get (.head _), hh, tk, t, c₂₀.get (.tail _ (.head _))⟩ (by rw [P₁₀.size]; (exact om33 hl1)) fun s₂₁ n₂₁ O₂₁ S₂₁ Y₂₁ => ?_
    refine wpAny_execs_nil ?_
    have S₂₀ := c₂₀.st
    refine h s₂₁ n₂₁ O₂₁ ((S₂₀.trans S₂₁).sub fun x hx => ?_) Y₂₁ ⟨lls, ll ++ [(ofL (flat ps), t₁₈)], nl + 1, S₂₁.keep ls _ (by simp [dls, dld]) (not_tab lls) ?_, ?_⟩
    · simp only [List.map_cons, List.map_nil, List.mem_append, List.mem_cons, List.not_mem_nil, or_false] at hx ⊢
      rcases hx with (rfl | rfl | rfl) | rfl | rfl <;> simp
    · have e := c₂₀.get (.tail _ (.tail _ (.head _)))
      rw [e, ← hflat]
      simp [strValues]
    · simp [hl]
end
end Mine
end

section
open PySem PySem.W PySem.Calls PyProof.Rows
set_option maxRecDepth 100000
set_option maxHeartbeats 8000000
namespace Mine
noncomputable def Ro (L : Addr) (s s' : Shared) : Prop := ∀ b o, (221 : Nat) ≤ b → b ≠ L → s.heap.get? b = some o → s'.heap.get? b = some o
theorem Ro.refl {L : Addr} {s : Shared} : Ro L s s := fun _ _ _ _ e => e
theorem Ro.trans {L : Addr} {s s' s'' : Shared} (a : Ro L s s') (b : Ro L s' s'') : Ro L s s'' := fun x o h1 h2 e => b x o h1 h2 (a x o h1 h2 e)
theorem Ro.ext {L : Addr} {s s' s'' : Shared} (a : Ro L s s') (k : ∀ b o, s'.heap.get? b = some o → s''.heap.get? b = some o) : Ro L s s'' := fun x o h1 h2 e => k x o (a x o h1 h2 e)
theorem Ro.st {L : Addr} {s s' s'' : Shared} (a : Ro L s s') (S : St [] s' s'') : Ro L s s'' := fun x o h1 h2 e => S.keep x o (fun h => nomatch h) (not_tab h1) (a x o h1 h2 e)
theorem Ro.but {L : Addr} {s s' s'' : Shared} (a : Ro L s s') (k : ∀ b o, b ≠ L → s'.heap.get? b = some o → s''.heap.get? b = some o) : Ro L s s'' := fun x o h1 h2 e => k x o h2 (a x o h1 h2 e)
theorem Ro.eq {L : Addr} {s s' s'' : Shared} (a : Ro L s s') (k : s''.heap = s'.heap) : Ro L s s'' := fun x o h1 h2 e => k ▸ a x o h1 h2 e
section
variable {prog : Program} {w : World} {A : Around} {g : Heap} {ws : List Addr} {s₀ s : Shared} {L I : Addr} {m : Str → Option Value} {news : List (Addr × Obj)}
theorem Cx.turn {h' : Heap} {tk : Nat} (c : Cx w g ws s₀ L m news s) (hI : (221 : Nat) ≤ I) (hgI : g.get? I = none) (hLI : L ≠ I) (hnI : ∀ p ∈ news, p.1 ≠ I) (k : ∀ b o, b ≠ I → s.heap.get? b = some o → h'.get? b = some o) : Cx w g ws s₀ L m news { s with heap := h', toks := tk } :=
  ⟨c.B, c.big, c.hL, ⟨c.F.ns.at' fun o e => k L o hLI e, fun b o e => k b o (fun q => by rw [q, hgI] at e; cases e) (c.F.keep b o e), c.F.above⟩, fun p hp => ⟨k _ _ (hnI p hp) (c.N p hp).1, (c.N p hp).2⟩, c.T.keeps fun b o hb e => k b o (fun q => not_tab hI (q ▸ hb)) e, c.bare, c.os, c.hi⟩
theorem r_for {R : Result → Shared → Prop} {target : Expr} {body orelse : List Stmt} {env : Env} {n : Nat} {P : Nat → Value → Prop} {S : Nat → Heap → Prop} (W : Walks prog w A I [I] [I] n P S) (sa : Shared)
    (hI : (221 : Nat) ≤ I) (hgI : g.get? I = none) (hLI : L ≠ I) (hnI : ∀ p ∈ news, p.1 ≠ I) (hsI : sa.heap.get? I = none) (J : Nat → (Str → Option Value) → Prop)
    (turn : ∀ j v m s, j < n → J j m → Cx w g ws s₀ L m news s → Ro L sa s → P j v → wpAny (model prog w) A (assign target env v) (fun _ s₂ => wpAny (model prog w) A (execs body env) (fun f s₃ => match f with
        | .next | .cont => ∃ m', J (j + 1) m' ∧ Cx w g ws s₀ L m' news s₃ ∧ Ro L s s₃
        | .brk => R (.ok .next) s₃
        | .ret v => R (.ok (.ret v)) s₃) (notedBy (model prog w) A env fun e s' => R (.error e) s') s₂) (notedBy (model prog w) A env fun e s' => R (.error e) s') s)
    (done : ∀ m s, J n m → Cx w g ws s₀ L m news s → Ro L sa s → wpAny (model prog w) A (execs orelse env) (fun f s₃ => R (.ok f) s₃) (notedBy (model prog w) A env fun e s' => R (.error e) s') s)
    (c : Cx w g ws s₀ L m news s) (ro : Ro L sa s) (h0 : J 0 m) (hS : S 0 s.heap) (ht : ∀ v, letOwnedTupleGo target (.ref I) v = pure () := by intro _; rfl) :
    codeAny (model prog w) A (.forLoop target (.ref I) body orelse env) R s := by
  have hro : ∀ {s : Shared} {h' : Heap} {tk : Nat}, Ro L sa s → (∀ b o, b ∉ [I] → s.heap.get? b = some o → h'.get? b = some o) → Ro L sa { s with heap := h', toks := tk } := fun ro k b o h1 h2 e =>
    k b o (fun q => by rw [List.mem_singleton] at q; rw [q, hsI] at e; cases e) (ro b o h1 h2 e)
  refine codeAny_forLoop (I := fun k s => ∃ j m, k = n - j ∧ j ≤ n ∧ J j m ∧ Cx w g ws s₀ L m news s ∧ Ro L sa s ∧ S j s.heap) (fun k s hk => ?_) n ⟨0, m, rfl, Nat.zero_le _, h0, c, ro, hS⟩ ht
  obtain ⟨j, m, rfl, hj, hJ, c, ro, hS⟩ := hk
  rcases Nat.lt_or_ge j n with hlt | hge
  · refine W.item j s _ _ hlt hS fun v h' tk hP hS' k => ?_
    have c' := c.turn (tk := tk) hI hgI hLI hnI fun b o hb e => k b o (by simpa using hb) e
    refine wpAny_mono (turn j v m _ hlt hJ c' (hro ro k) hP) (fun _ s₂ h₂ => wpAny_mono h₂ (fun f s₃ h₃ => ?_) fun _ _ e => e) fun _ _ e => e
    cases f with
    | next => obtain ⟨m', hJ', c₃, r₃⟩ := h₃; exact ⟨n - (j + 1), by (exact om36 hlt), j + 1, m', rfl, hlt, hJ', c₃, (hro ro k).trans r₃, W.frame _ _ _ hS' fun b hb o e => by rw [List.mem_singleton] at hb; subst hb; exact r₃ b o hI (Ne.symm hLI) e⟩
    | cont => obtain ⟨m', hJ', c₃, r₃⟩ := h₃; exact ⟨n - (j + 1), by (exact om36 hlt), j + 1, m', rfl, hlt, hJ', c₃, (hro ro k).trans r₃, W.frame _ _ _ hS' fun b hb o e => by rw [List.mem_singleton] at hb; subst hb; exact r₃ b o hI (Ne.symm hLI) e⟩
    | brk => exact h₃
    | ret v => exact h₃
  · have : j = n := Nat.le_antisymm hj hge
    subst this
    refine W.done s _ _ hS fun h' tk k => ?_
    exact done m _ hJ (c.turn (tk := tk) hI hgI hLI hnI fun b o hb e => k b o (by simpa using hb) e) (hro ro k)
end
end Mine
end

section
open PySem PySem.W PySem.Calls PyProof.Rows
set_option maxRecDepth 100000
set_option maxHeartbeats 8000000
namespace Mine
section
variable {w : World} {A : Around} {E : Value → Shared → Prop} {s : Shared} {a d : Addr} {its : Array Value} {n : Nat} {i : Int} {Q : Value → Shared → Prop}
theorem tail_builtin {value slice : Expr} {o i : Value} {T id : String} {Q : Value → Shared → Prop} (hT : s.TypeIs o T)
    (hl : typeLookup (.type T) "__getitem__" = pure (some (.builtin id))) (h : wpAny (model PG w) A (getItem o i) Q E s)
    (hs : subscripted slice false o i = operate [o, i] (getItem o i) := by with_unfolding_all rfl) :
    wpAny (model PG w) A (subscriptTail value slice o i) Q E s := by
  unfold subscriptTail
  refine wpAny_bind ?_
  rw [getitemInPython_of_ne hT.not_modules]
  refine wpAny_bind (wpAny_specialOf hT hl ?_)
  have fin : wpAny (model PG w) A (subscripted slice false o i) (fun r s₃ => wpAny (model PG w) A (letTemporaryGo value o r >>= fun _ => pure r) Q E s₃) E s := by
    rw [hs]
    exact wpAny_operating (wpAny_mono h (fun r s₃ h₃ => wpAny_bind (wpAny_letTemporaryGo (wpAny_pure h₃))) fun _ _ x => x)
  first
    | exact wpAny_pure (wpAny_bind fin)
    | exact wpAny_bind (wpAny_pure (wpAny_bind fin))
    | exact wpAny_bind fin
theorem pair_item {value slice : Expr} {T : Addr} {x y : Value} {k : Int} {u : Tok} {j : Nat} {v : Value} (hT : s.heap.get? T = some (tupObj #[x, y])) (hlo : -(2 ^ 63) ≤ k) (hhi : k < 2 ^ 63) (hj : seqIndex? k 2 = some j) (hv : (#[x, y] : Array Value)[j]? = some v) (h : Q v s)
    (hs : subscripted slice false (.ref T) (.int k u) = operate [.ref T, .int k u] (getItem (.ref T) (.int k u)) := by with_unfolding_all rfl) : wpAny (model PG w) A (subscriptTail value slice (.ref T) (.int k u)) Q E s := by
  have ht : IsTup s.heap T #[x, y] := ⟨_, hT, rfl, _, rfl⟩
  exact tail_builtin ht.typeIs slot_tuple_getitem.lookup (getItem_tuple ht hlo hhi hj hv h) hs
theorem sign_item {value slice : Expr} {x : Str} {t u : Tok} {k : Int} {c : Nat} (hr : (decide (k < -(2 ^ 63 : Int)) || decide (k ≥ 2 ^ 63)) = false) (hc : (seqIndex? k x.length).bind (x.cps[·]?) = some c) (h : Q (.str ⟨#[c]⟩ s.toks) { s with toks := s.toks + 1 })
    (hs : subscripted slice false (.str x t) (.int k u) = operate [.str x t, .int k u] (getItem (.str x t) (.int k u)) := by with_unfolding_all rfl) : wpAny (model PG w) A (subscriptTail value slice (.str x t) (.int k u)) Q E s :=
  tail_builtin (typeIs_str s x t) PySem.F.slot_str_getitem.lookup (P.getItem_str hr hc h) hs
theorem acc_item {value slice : Expr} {hh : Int} {tk t : Tok} {k : Int} {u : Tok} {v : Value} (X : (KK w).In s.heap) (I : InstAt s.heap a (accObj d its n) 178 (some (accDict hh tk i t))) (h0 : 0 ≤ k) (h63 : k < 2 ^ 63) (hv : its[k.toNat]? = some v) (h : Q v s)
    (hs : subscripted slice false (.ref a) (.int k u) = operate [.ref a, .int k u] (getItem (.ref a) (.int k u)) := by with_unfolding_all rfl) : wpAny (model PG w) A (subscriptTail value slice (.ref a) (.int k u)) Q E s :=
  acc_tail X I hs (get_int I.at_ h0 h63 hv h)
end
noncomputable def hitAt (c : Nat) (ps : List (Str × Str)) (k : Nat) : Bool :=
  (Unicode.isSpace c && (((ps[k]?).bind fun p => p.1.cps.toList.head?) == some c)) || (((ps[k - 1]?).bind fun p => p.2.cps.toList.getLast?) == some c)
noncomputable def findK (c : Nat) (ps : List (Str × Str)) : Nat → Option Nat
  | 0 => none
  | k + 1 => if hitAt c ps (k + 1) then some (k + 1) else findK c ps k
noncomputable def findAll (cs : List Nat) (ps : List (Str × Str)) : Option Nat := cs.findSome? fun c => findK c ps (ps.length - 1)
noncomputable def chunk (W : Int) (cs : List Nat) (st : List Str × List (Str × Str) × Int) (q : Str × Str) : List Str × List (Str × Str) × Int :=
  if st.2.2 + sizes (st.2.1 ++ [q]) ≤ W then (st.1, st.2.1 ++ [q], st.2.2)
  else match findAll cs (st.2.1 ++ [q]) with
    | some k => (st.1 ++ [ofL (flat ((st.2.1 ++ [q]).take k))], (st.2.1 ++ [q]).drop k, 0)
    | none => if 0 < st.2.2 then (st.1 ++ [ofL (flat st.2.1)], [(if q.1 = ofL [] then ofL [32] else q.1, q.2)], 0) else (st.1, st.2.1 ++ [q], st.2.2)
end Mine
end

section
open PySem PySem.W PySem.Calls PyProof.Rows
set_option maxRecDepth 100000
set_option maxHeartbeats 8000000
namespace Mine
theorem wpAny_mid {α : Type} {M : Model} {A : Around} {m : Sem α} {P : α → Shared → Prop} {E : Value → Shared → Prop} {s : Shared} (h : ∀ P' : α → Shared → Prop, (∀ a s', P a s' → P' a s') → wpAny M A m P' E s) : wpAny M A m P E s := h P fun _ _ x => x
section
variable {w : World} {A : Around} {E : Value → Shared → Prop} {g : Heap} {ws : List Addr} {s₀ s : Shared} {L I : Addr} {m : Str → Option Value} {news : List (Addr × Obj)} {Q : Value → Shared → Prop}
theorem Cx.fresh (c : Cx w g ws s₀ L m news s) (hI : (s.heap.objs.size : Nat) ≤ I) : (221 : Nat) ≤ I ∧ g.get? I = none ∧ L ≠ I ∧ (∀ p ∈ news, p.1 ≠ I) := by
  have none_of : ∀ b o, s.heap.get? b = some o → b ≠ I := fun b o e q => absurd (Heap.lt_size e) (by rw [q]; exact Nat.not_lt.mpr hI)
  have hL : (L : Nat) < s.heap.objs.size := by obtain ⟨oL, _, _, e, _⟩ := c.F.ns; exact Heap.lt_size e
  refine ⟨Nat.le_trans c.big (Nat.le_trans (Nat.le_of_lt hL) hI), ?_, fun q => ?_, fun p hp => none_of _ _ (c.N p hp).1⟩
  · cases e : g.get? I with
    | none => rfl
    | some o => exact absurd rfl (none_of _ _ (c.base e))
  · exact absurd hL (Nat.not_lt.mpr (by rw [q]; exact hI))
theorem Ro.none {sa : Shared} (ro : Ro L sa s) (hI : (s.heap.objs.size : Nat) ≤ I) (h238 : (221 : Nat) ≤ I) (hLI : L ≠ I) : sa.heap.get? I = none := by
  cases e : sa.heap.get? I with
  | none => rfl
  | some o => exact absurd (Heap.lt_size (ro I o h238 (Ne.symm hLI) e)) (Nat.not_lt.mpr hI)
theorem down_size (k : Nat) : Builtin.Range.rangeSize k 0 (-1) = k := by
  unfold Builtin.Range.rangeSize
  rw [if_neg (by decide)]
  split
  · rename_i h
    have : ((k : Int) - 0 - 1) / (- -1) = k - 1 := by simp
    (exact om37 this)
  · (exact om38 (by assumption))
theorem down_small {k : Nat} (hk : k ≤ 100000) : Builtin.Range.small k 0 (-1) = true := by
  unfold Builtin.Range.small
  rw [down_size]
  unfold Builtin.Range.rangeFitsLong
  simp only [Bool.and_eq_true, Bool.or_eq_true, decide_eq_true_eq]
  refine ⟨⟨⟨⟨?_, ?_⟩, ?_⟩, ?_⟩, .inr ?_⟩
  all_goals first | lia | (rw [if_neg (by decide)]; decide) | decide
theorem down_iter {k : Nat} {t u v : Tok} (hk : k ≤ 100000) (h : ∀ s', (∀ b o, s.heap.get? b = some o → s'.heap.get? b = some o) → s'.gens = s.gens → s'.os = s.os → IsRangeIter s'.heap I k k (-1) → (s.heap.objs.size : Nat) ≤ I → Q (.ref I) s')
    (hI : I = s.heap.objs.size + 1) :
    wpAny (model PG w) A (call (.type "range") [.int k t, .int 0 u, .int (-1) v]) (fun x s₁ => wpAny (model PG w) A (pyIter x) Q E s₁) E s := by
  refine call_range_3 (by decide) ?_ (.inl (PyProof.noPylong_small (by lia)))
  refine wpAny_pyIter_range (a := k) (b := 0) (c := -1) (t := t) (u := u) (v := v) (IsRange.new ..) (down_small hk) ?_
  have e : (s.heap.push { cls := .type "range", data := .fields #[.int k t, .int 0 u, .int (-1) v] }).objs.size = I := by rw [Heap.size_push, hI]
  show Q (.ref (s.heap.push { cls := .type "range", data := .fields #[.int k t, .int 0 u, .int (-1) v] }).objs.size) _
  rw [e, down_size]
  refine h _ (fun b o e => Heap.get?_push_of_some _ (Heap.get?_push_of_some _ e)) rfl rfl ?_ (by rw [hI]; exact Nat.le_succ _)
  rw [← e]
  exact Heap.get?_push_size _ rfl
end
end Mine
end

section
open PySem PySem.W PySem.Calls PyProof.Rows
set_option maxRecDepth 100000
set_option maxHeartbeats 8000000
namespace Mine
section
variable {w : World} {A : Around} {E : Value → Shared → Prop} {s : Shared} {f fd ls a d : Addr} {W : Int} {ws sp : Str} {its : Array Value} {n : Nat} {i : Int} {ps : List (Str × Str)} {lines : List Str} {Q : Value → Shared → Prop}
theorem fm_ne {p : FP} {hh : Int} {tk t : Tok} {h : Heap} {vs : Array Value} {nl : Nat} (oa : h.get? a = some (accObj d its n)) (od : h.get? d = some (accDict hh tk i t)) (of : h.get? f = some (instObj 94 fd)) (ofd : h.get? fd = some (fmDict p W ws sp ls a)) (ols : h.get? ls = some (listObj vs nl)) :
    ls ≠ a ∧ ls ≠ d ∧ f ≠ a ∧ f ≠ d ∧ f ≠ ls ∧ fd ≠ a ∧ fd ≠ d ∧ fd ≠ ls ∧ d ≠ a := by
  refine ⟨fun e => ?_, fun e => ?_, fun e => ?_, fun e => ?_, fun e => ?_, fun e => ?_, fun e => ?_, fun e => ?_, fun e => ?_⟩
  · rw [e, oa] at ols; cases ols
  · rw [e, od] at ols; have := congrArg (fun o => o.map Obj.data) ols; cases this
  · rw [e, oa] at of; have := congrArg (fun o => o.map Obj.data) of; cases this
  · rw [e, od] at of; have := congrArg (fun o => o.map Obj.data) of; cases this
  · rw [e, ols] at of; have := congrArg (fun o => o.map Obj.data) of; cases this
  · rw [e, oa] at ofd; have := congrArg (fun o => o.map Obj.data) ofd; cases this
  · rw [e, od] at ofd
    have := congrArg (fun o => o.map fun (x : Obj) => match x.data with | .dict es _ => es.size | _ => 0) ofd
    cases this
  · rw [e, ols] at ofd; have := congrArg (fun o => o.map Obj.data) ofd; cases this
  · rw [e, oa] at od; cases od
theorem own3 {x y z : Addr} {ox oy oz : Obj} (lx : (221 : Nat) ≤ x) (ex : s.heap.get? x = some ox) (ly : (221 : Nat) ≤ y) (ey : s.heap.get? y = some oy) (lz : (221 : Nat) ≤ z) (ez : s.heap.get? z = some oz) :
    ∀ q ∈ [(x, ox), (y, oy), (z, oz)], (221 : Nat) ≤ q.1 ∧ s.heap.get? q.1 = some q.2 := fun q hq => by
  cases hq with | head => exact ⟨lx, ex⟩ | tail _ hq => cases hq with | head => exact ⟨ly, ey⟩ | tail _ hq => cases hq with | head => exact ⟨lz, ez⟩ | tail _ h => cases h
theorem pairs_g {p : FP} {g : Heap} {wss : List Addr} {hh : Int} {tk t : Tok} {vs : Array Value} {nl : Nat} (B : Bg w g wss s) (hws : ∀ x ∈ wss, x = a ∨ x = d ∨ x = ls) (oa : s.heap.get? a = some (accObj d its n)) (od : s.heap.get? d = some (accDict hh tk i t)) (ols : s.heap.get? ls = some (listObj vs nl)) {its' : Array Value} (Ps : PairsAt s.heap its' ps) : PairsAt g its' ps :=
  Ps.high' fun b o vs e hb eo => B.all b _ (fun q => by
    subst e
    rcases hws b q with rfl | rfl | rfl
    · rw [oa] at eo; cases eo
    · rw [od] at eo; have := congrArg (fun o => o.map Obj.data) eo; cases this
    · rw [ols] at eo; have := congrArg (fun o => o.map Obj.cls) eo; simp at this) (not_tab hb) eo
theorem fm_maxlen' {p : FP} {g : Heap} {wss : List Addr} {s₀ : Shared} {L : Addr} {m : Str → Option Value} {news : List (Addr × Obj)} {x : Str} {pos pos' : Pos} {cn : Str} {cs : Scope} {fa : Addr} {ccd : Value} {cl : List (Str × Addr)} (c : Cx w g wss s₀ L m news s) (hx : m x = some (.ref f)) (gf : g.get? f = some (instObj 94 fd)) (gfd : g.get? fd = some (fmDict p W ws sp ls a))
    (h : ∀ s', Cx w g wss s₀ L m news s' → s'.heap = s.heap → Q (.int W p.u1) s') (hk : cs.kind = .function := by rfl) (hx' : (envX cn cs L fa ccd cl).kindOf x = some .local := by rfl) (hd : (x == ("__debug__" : Str)) = false := by decide) :
    wpAny (model PG w) A (eval (.Attribute (.Name x pos) "_maxlen" pos') (envX cn cs L fa ccd cl)) Q E s := by
  refine Attribute_name ?_
  refine c_name c hx ?_ hk hx' hd
  exact fm_maxlen c.X (fmI (c.base gf) (c.base gfd)) (h _ (c.ext (s' := { s with toks := s.toks + 1 }) (fun _ _ e => e) rfl rfl) rfl)
theorem fm_split' {p : FP} {g : Heap} {wss : List Addr} {s₀ : Shared} {L : Addr} {m : Str → Option Value} {news : List (Addr × Obj)} {x : Str} {pos pos' : Pos} {cn : Str} {cs : Scope} {fa : Addr} {ccd : Value} {cl : List (Str × Addr)} (c : Cx w g wss s₀ L m news s) (hx : m x = some (.ref f)) (gf : g.get? f = some (instObj 94 fd)) (gfd : g.get? fd = some (fmDict p W ws sp ls a))
    (h : ∀ s', Cx w g wss s₀ L m news s' → s'.heap = s.heap → Q (.str sp p.u4) s') (hk : cs.kind = .function := by rfl) (hx' : (envX cn cs L fa ccd cl).kindOf x = some .local := by rfl) (hd : (x == ("__debug__" : Str)) = false := by decide) :
    wpAny (model PG w) A (eval (.Attribute (.Name x pos) "_splitchars" pos') (envX cn cs L fa ccd cl)) Q E s := by
  refine Attribute_name ?_
  refine c_name c hx ?_ hk hx' hd
  exact fm_split c.X (fmI (c.base gf) (c.base gfd)) (h _ (c.ext (s' := { s with toks := s.toks + 1 }) (fun _ _ e => e) rfl rfl) rfl)

noncomputable abbrev sSelf : Str := (Str.ofString "self")
noncomputable abbrev sCh : Str := (Str.ofString "ch")
noncomputable abbrev sFws : Str := (Str.ofString "fws")
noncomputable abbrev sPrev : Str := (Str.ofString "prevpart")
noncomputable abbrev sPart : Str := (Str.ofString "part")
noncomputable abbrev sI : Str := (Str.ofString "i")
theorem findK_some {c : Nat} {ps : List (Str × Str)} {k : Nat} (h1 : 1 ≤ k) (hk : hitAt c ps k = true) : ∀ K, k ≤ K → (∀ q, k < q → q ≤ K → hitAt c ps q = false) → findK c ps K = some k
  | 0, h, _ => by (exact (om43 h1 h).elim)
  | K + 1, h, hq => by
    unfold findK
    rcases Nat.lt_or_ge k (K + 1) with hlt | hge
    · rw [hq (K + 1) hlt (Nat.le_refl _), if_neg (by decide)]
      exact findK_some h1 hk K (by (exact om44 hlt)) fun q a b => hq q a (by (exact Nat.le_succ_of_le (by assumption)))
    · have : k = K + 1 := by (exact om45 h hge)
      subst this
      rw [hk, if_pos rfl]
theorem findK_none {c : Nat} {ps : List (Str × Str)} : ∀ K, (∀ q, 0 < q → q ≤ K → hitAt c ps q = false) → findK c ps K = none
  | 0, _ => rfl
  | K + 1, hq => by
    unfold findK
    rw [hq (K + 1) (by (exact Nat.zero_lt_succ _)) (Nat.le_refl _), if_neg (by decide)]
    exact findK_none K fun q a b => hq q a (by (exact Nat.le_succ_of_le (by assumption)))
theorem isspace_one (c : Nat) : Txt.isspace ⟨#[c]⟩ = Unicode.isSpace c := by
  show ((1 : Nat) > 0 && (#[c] : Array Nat).all Unicode.isSpace) = _
  simp
theorem seq0 {l : List Nat} {c : Nat} (h : l.head? = some c) (x : Str) (e : x.cps.toList = l) : (seqIndex? 0 x.length).bind (x.cps[·]?) = some c := by
  cases l with
  | nil => cases h
  | cons d r =>
    cases h
    have hl : x.length = r.length + 1 := by unfold Str.length; rw [← Array.length_toList, e]; rfl
    have : seqIndex? 0 x.length = some 0 := by unfold seqIndex?; rw [hl]; simp
    rw [this, Option.bind_some, ← Array.getElem?_toList, e]; rfl
theorem seqLast {l : List Nat} {c : Nat} (h : l.getLast? = some c) (x : Str) (e : x.cps.toList = l) : (seqIndex? (-1) x.length).bind (x.cps[·]?) = some c := by
  have hl : x.length = l.length := by unfold Str.length; rw [← Array.length_toList, e]
  have hpos : 0 < l.length := by cases l with | nil => cases h | cons _ _ => simp
  have : seqIndex? (-1) x.length = some (l.length - 1) := by
    unfold seqIndex?
    rw [hl]
    have h1 : ((-1 : Int) < 0) = True := by simp
    simp only [h1, if_true]
    rw [if_pos (by simp only [Bool.and_eq_true, decide_eq_true_eq]; (exact om46 hpos))]
    congr 1; (exact om47 hpos)
  rw [this, Option.bind_some, ← Array.getElem?_toList, e, ← List.getLast?_eq_getElem?, h]
theorem findSome_at {F : Nat → Option Nat} : ∀ {cs : List Nat} {j ch k : Nat}, cs[j]? = some ch → (∀ j' c', j' < j → cs[j']? = some c' → F c' = none) → F ch = some k → cs.findSome? F = some k
  | [], _, _, _, h, _, _ => by simp at h
  | c :: cs, 0, ch, k, h, _, hk => by simp at h; subst h; simp [hk]
  | c :: cs, j + 1, ch, k, h, hno, hk => by
    have := hno 0 c (by (exact Nat.zero_lt_succ _)) rfl
    rw [List.findSome?_cons, this]
    exact findSome_at (j := j) (by simpa using h) (fun j' c' a b => hno (j' + 1) c' (by (exact Nat.lt_succ_of_le (by assumption))) (by simpa using b)) hk
theorem findSome_no {F : Nat → Option Nat} {cs : List Nat} (h : ∀ (j : Nat) c', cs[j]? = some c' → F c' = none) : cs.findSome? F = none := by
  rw [List.findSome?_eq_none_iff]
  intro c hc
  obtain ⟨j, hj, e⟩ := List.getElem_of_mem hc
  exact h j c (by rw [List.getElem?_eq_getElem hj, e])
theorem PairsAt.take {h : Heap} (P : PairsAt h its ps) {k : Nat} (hk : k ≤ ps.length) : PairsAt h (its.extract 0 k) (ps.take k) := by
  refine ⟨by simp [P.size], fun j q hq => ?_⟩
  have hj : j < k := by
    have := (List.getElem?_eq_some_iff.mp hq).1
    simp at this; (exact om48 hk this)
  rw [List.getElem?_take_of_lt hj] at hq
  obtain ⟨v, hv, e⟩ := P.at_ j q hq
  refine ⟨v, ?_, e⟩
  rw [Array.getElem?_extract_of_lt (by have := P.size; (exact om49 hk hj this))]
  obtain ⟨_, e'⟩ := Array.getElem?_eq_some_iff.mp hv
  simpa using e'
theorem PairsAt.drop {h : Heap} (P : PairsAt h its ps) {k : Nat} (hk : k ≤ ps.length) : PairsAt h (its.extract k its.size) (ps.drop k) := by
  refine ⟨by simp [P.size], fun j q hq => ?_⟩
  rw [List.getElem?_drop] at hq
  obtain ⟨v, hv, e⟩ := P.at_ (k + j) q hq
  refine ⟨v, ?_, e⟩
  have : k + j < its.size := (Array.getElem?_eq_some_iff.mp hv).1
  rw [Array.getElem?_extract_of_lt (by (exact om50 this))]
  exact congrArg some (Array.getElem?_eq_some_iff.mp hv).2
theorem append_ok {f0 p0 : Str} {tf tp : Tok} (O : Ok w s) (r : Rm A 12) (F : FmAt s.heap f fd ls a W ws sp) (Y : AccAt s.heap a d its n i) (Ps : PairsAt s.heap its ps) (Ls : LinesAt s.heap ls lines)
    (hi : 0 ≤ i ∧ i ≤ 1000) (hsz : sizes (ps ++ [(f0, p0)]) ≤ 100000) (hlen : ps.length ≤ 900) (hll : lines.length ≤ 900)
    (hne : ∀ q ∈ ps ++ [(f0, p0)], q.2 ≠ ofL [])
    (h : ∀ s' its' n' ps' i' lines', chunk W sp.cps.toList (lines, ps, i) (f0, p0) = (lines', ps', i') → Ok w s' → St [a, d, ls] s s' → AccAt s'.heap a d its' n' i' → PairsAt s'.heap its' ps' → LinesAt s'.heap ls lines' → (∀ U, Value.ref U ∈ its'.toList → Value.ref U ∈ its.toList ∨ s.heap.objs.size ≤ U) → Q .none s') :
    wpAny (model PG w) A (call (.ref 91) [.ref f, .str f0 tf, .str p0 tp]) Q E s := by
  obtain ⟨la, ld, oa, hh, tk, t, od⟩ := Y
  obtain ⟨lf, lfd, of, p, ofd⟩ := F
  obtain ⟨lls, ll, nl, ols, hl⟩ := Ls
  obtain ⟨dls, dld, fa, fd', fls, da, dd, dl, hda⟩ := fm_ne oa od of ofd ols
  refine c_enter (binds := [("self", .ref f), ("fws", .str f0 tf), ("string", .str p0 tp)]) [(a, accObj d its n), (d, accDict hh tk i t), (ls, listObj (strValues ll).toArray nl)] O r.room (own3 la oa ld od lls ols) fun g L s₁ c => ?_
  have gf : g.get? f = some (instObj 94 fd) := c.B.all f _ (by simp [fa, fd', fls]) (not_tab lf) of
  have gfd : g.get? fd = some (fmDict p W ws sp ls a) := c.B.all fd _ (by simp [da, dd, dl]) (not_tab lfd) ofd
  have Pg : PairsAt g its ps := pairs_g (p := p) c.B (fun x hx => by simpa using hx) oa od ols Ps
  have big : (221 : Nat) ≤ s.heap.objs.size := (base_of (own := []) O.gd no_own).2
  refine wpAny_execs_cons ?_
  refine wpAny_Expr ?_
  refine MethodCall_ ?_
  refine fm_cur' c rfl gf gfd fun s₂ c₂ e₂ => ?_
  refine acc_meth (f := 122) c₂.X (accI (c₂.get (.head _)) (c₂.get (.tail _ (.head _)))) ?_
  refine callWith_K (K := KK w) c₂.X (by kernel_rfl) ?_
  refine spliced_more (c_name c₂ rfl (spliced_more (c_name c₂ rfl (spliced_none ?_))))
  refine ⟨c₂.X, ?_⟩
  have hs1 : its.size = ps.length := Ps.size
  refine push_ok c₂.ok (show A.depth + 1 < recursionLimit from r.room 1) ⟨la, ld, c₂.get (.head _), hh, tk, t, c₂.get (.tail _ (.head _))⟩ (by (exact om51 hlen hs1)) fun s₃ T O₃ S₃ Y₃ eT ltT => ?_
  have c₃ := (c₂.call1 (Upd.head (fun x hx => by
      cases hx with | head => exact hda | tail _ hx => cases hx with | head => exact dls | tail _ h => cases h)) S₃ O₃ Y₃.oa).new eT (Nat.lt_trans c₂.lt ltT)
  have bigT : (221 : Nat) ≤ T := Nat.le_of_lt (Nat.lt_of_le_of_lt big (Nat.lt_trans c₂.lt ltT))
  have Pc : ∀ {m s'}, Cx w g [a, d, ls] s L m [(T, tupObj #[.str f0 tf, .str p0 tp]), (a, accObj d (its.push (.ref T)) (n + 1)), (d, accDict hh tk i t), (ls, listObj (strValues ll).toArray nl)] s' → PairsAt s'.heap (its.push (.ref T)) (ps ++ [(f0, p0)]) := fun c =>
    (Pg.keeps fun b o e => c.base e).push ⟨T, tf, tp, rfl, bigT, c.get (.head _)⟩
  have Yc : ∀ {m s'}, Cx w g [a, d, ls] s L m [(T, tupObj #[.str f0 tf, .str p0 tp]), (a, accObj d (its.push (.ref T)) (n + 1)), (d, accDict hh tk i t), (ls, listObj (strValues ll).toArray nl)] s' → AccAt s'.heap a d (its.push (.ref T)) (n + 1) i := fun c =>
    ⟨la, ld, c.get (.tail _ (.head _)), hh, tk, t, c.get (.tail _ (.tail _ (.head _)))⟩
  refine wpAny_execs_cons ?_
  refine wpAny_If (wpAny_isTrue_Compare1 ?_)
  refine Call_ ?_
  refine c_built c₃ (v := .builtin "len") ?_ ?_ ?_ ?_
  · kernel_rfl
  · kernel_rfl
  · decide
  refine PyProof.Rows.callWith_builtin1 ?_
  refine spliced_more ?_
  refine fm_cur' c₃ rfl gf gfd fun s₄ c₄ e₄ => ?_
  refine spliced_none ?_
  refine len_call c₄.ok r.deep.le (Yc c₄) (Pc c₄) (by (exact om30 hi)) (by (exact om52 hsz)) fun s₅ t₅ O₅ S₅ => ?_
  have c₅ := c₄.call0 S₅ O₅
  refine fm_maxlen' c₅ rfl gf gfd fun s₆ c₆ e₆ => ?_
  refine gt_int (wpAny_truthy_bool ?_)
  have memT : ∀ U, Value.ref U ∈ (its.push (.ref T)).toList → Value.ref U ∈ its.toList ∨ s.heap.objs.size ≤ U := fun U hU => by
    rw [Array.toList_push] at hU
    rcases List.mem_append.mp hU with h1 | h1
    · exact .inl h1
    · rw [List.mem_singleton] at h1; cases h1; exact .inr (Nat.le_of_lt (Nat.lt_trans c₂.lt ltT))
  by_cases hW : i + sizes (ps ++ [(f0, p0)]) ≤ W
  · rw [decide_eq_false (by (exact om53 hW)), if_neg (by decide)]
    refine wpAny_execs_nil ?_
    refine wpAny_execs_nil ?_
    refine h s₆ _ (n + 1) (ps ++ [(f0, p0)]) i lines ?_ c₆.ok c₆.st (Yc c₆) (Pc c₆) ⟨lls, ll, nl, c₆.get (.tail _ (.tail _ (.tail _ (.head _)))), hl⟩ memT
    unfold chunk
    rw [if_pos hW]
  · rw [decide_eq_true (by (exact om54 hW)), if_pos rfl]
    have hK : (its.push (.ref T)).size = ps.length + 1 := by simp [hs1]
    have hK1 : (ps ++ [(f0, p0)]).length = ps.length + 1 := by simp
    refine wpAny_execs_cons ?_
    refine wpAny_mono (Q := fun fl s' => match fl with
      | .next => ∃ k u m, findAll sp.cps.toList (ps ++ [(f0, p0)]) = some k ∧ 1 ≤ k ∧ k ≤ ps.length ∧ m sSelf = some (.ref f) ∧ m sI = some (.int (k : Nat) u) ∧ Cx w g [a, d, ls] s L m [(T, tupObj #[.str f0 tf, .str p0 tp]), (a, accObj d (its.push (.ref T)) (n + 1)), (d, accDict hh tk i t), (ls, listObj (strValues ll).toArray nl)] s'
      | .ret v => Q v s'
      | _ => False) ?_ ?_ fun _ _ e => e
    · refine wpAny_mid fun Po hPo => ?_
      have ha' : ∀ D, [(T, tupObj #[.str f0 tf, .str p0 tp]), (a, accObj d (its.push (.ref T)) (n + 1)), (d, accDict hh tk i t), (ls, listObj (strValues ll).toArray nl)] = D → (a, accObj d (its.push (.ref T)) (n + 1)) ∈ D ∧ (d, accDict hh tk i t) ∈ D := fun D e => by rw [← e]; exact ⟨.tail _ (.head _), .tail _ (.tail _ (.head _))⟩
      generalize hD : ([(T, tupObj #[.str f0 tf, .str p0 tp]), (a, accObj d (its.push (.ref T)) (n + 1)), (d, accDict hh tk i t), (ls, listObj (strValues ll).toArray nl)] : List (Addr × Obj)) = D at c₆ Yc Pc hPo
      obtain ⟨ma, md⟩ := ha' D hD
      clear ha'
      refine wpAny_For ?_
      refine fm_split' c₆ rfl gf gfd fun s₇ c₇ e₇ => ?_
      refine wpAny_pyIter_str fun o S Wk hS => ?_
      have c₈ := c₇.ext (s' := { s₇ with heap := s₇.heap.push o }) (fun _ _ e => Heap.get?_push_of_some _ e) rfl rfl
      obtain ⟨hI1, hI2, hI3, hI4⟩ := c₇.fresh (Nat.le_refl _)
      refine r_for (Wk _ (by exact r.hd)) s₇ hI1 hI2 hI3 hI4 (Ro.refl.none (Nat.le_refl _) hI1 hI3) (fun j m => m sSelf = some (.ref f) ∧ ∀ j' c', j' < j → sp.cps[j']? = some c' → findK c' (ps ++ [(f0, p0)]) ps.length = none) ?_ ?_ c₈ (Ro.refl.ext fun _ _ e => Heap.get?_push_of_some _ e) ⟨rfl, fun j' c' h => absurd h (Nat.not_lt_zero _)⟩ hS
      · intro j v m s₉ hj hJ c₉ ro₉ hP
        obtain ⟨hself, hno⟩ := hJ
        obtain ⟨ch, uch, hch, rfl⟩ := hP
        refine wpAny_assign_Name (c_storeK c₉ fun s₁₀ c₁₀ k₁₀ => ?_)
        have hself' : (fun y => if y = sCh then some (Value.str ⟨#[ch]⟩ uch) else m y) sSelf = some (.ref f) := (if_neg (by decide)).trans hself
        have hch' : (fun y => if y = sCh then some (Value.str ⟨#[ch]⟩ uch) else m y) sCh = some (Value.str ⟨#[ch]⟩ uch) := if_pos rfl
        have ro₁₀ : Ro L s₉ s₁₀ := Ro.refl.but k₁₀
        refine wpAny_execs_cons ?_
        refine wpAny_mono (Q := fun fl s' => match fl with
          | .next => ∃ k u m, findK ch (ps ++ [(f0, p0)]) ps.length = some k ∧ 1 ≤ k ∧ k ≤ ps.length ∧ m sSelf = some (.ref f) ∧ m sI = some (.int (k : Nat) u) ∧ Cx w g [a, d, ls] s L m D s'
          | .cont => findK ch (ps ++ [(f0, p0)]) ps.length = none ∧ ∃ m, m sSelf = some (.ref f) ∧ Cx w g [a, d, ls] s L m D s' ∧ Ro L s₉ s'
          | _ => False) ?_ ?_ fun _ _ e => e
        · refine wpAny_mid fun P' hPm => ?_
          refine wpAny_For ?_
          refine Call_ ?_
          refine c_built c₁₀ (v := .type "range") ?_ ?_ ?_ ?_
          · kernel_rfl
          · kernel_rfl
          · decide
          refine PyProof.Rows.callWith_type1 ?_
          refine spliced_more ?_
          refine wpAny_BinOp ?_
          refine MethodCall_ ?_
          refine fm_cur' c₁₀ hself' gf gfd fun s₁₁ c₁₁ e₁₁ => ?_
          refine acc_meth (f := 175) c₁₁.X (accI (c₁₁.get ma) (c₁₁.get md)) ?_
          refine callWith_K0 (K := KK w) c₁₁.X (by kernel_rfl) ?_
          refine part_count_ok c₁₁.ok (show A.depth + 1 < recursionLimit from r.room 1) (Yc c₁₁) fun s₁₂ t₁₂ O₁₂ S₁₂ => ?_
          have c₁₂ := c₁₁.call0 S₁₂ O₁₂
          refine c_intK c₁₂ fun s₁₃ t₁₃ c₁₃ e₁₃ => ?_
          refine sub_int ?_
          have c₁₄ := c₁₃.ext (s' := { s₁₃ with toks := s₁₃.toks + 1 }) (fun _ _ e => e) rfl rfl
          refine spliced_more ?_
          refine c_intK c₁₄ fun s₁₅ t₁₅ c₁₅ e₁₅ => ?_
          refine spliced_more ?_
          refine UnaryOp_ ?_
          refine c_intK c₁₅ fun s₁₆ t₁₆ c₁₆ e₁₆ => ?_
          refine PyProof.Rows.neg_int ?_
          have c₁₇ := c₁₆.ext (s' := { s₁₆ with toks := s₁₆.toks + 1 }) (fun _ _ e => e) rfl rfl
          refine spliced_none ?_
          have ro₁₇ : Ro L s₉ { s₁₆ with toks := s₁₆.toks + 1 } := ((((ro₁₀.eq e₁₁).st S₁₂).eq e₁₃).eq e₁₅).eq e₁₆
          rw [show (((its.push (.ref T)).size : Nat) : Int) - 1 = ((ps.length : Nat) : Int) by rw [hK]; (exact om55)]
          refine down_iter (I := s₁₆.heap.objs.size + 1) (by (exact om56 hlen hs1 hK hK1)) (fun s₁₈ k₁₈ hg₁₈ ho₁₈ it₁₈ le₁₈ => ?_) rfl
          have c₁₈ := c₁₇.ext (s' := s₁₈) k₁₈ hg₁₈ ho₁₈
          obtain ⟨hJ1, hJ2, hJ3, hJ4⟩ := c₁₇.fresh (I := s₁₆.heap.objs.size + 1) le₁₈
          have ro₁₈ : Ro L s₉ s₁₈ := ro₁₇.ext k₁₈
          refine r_for (Walks.range (by exact r.hd) _ ps.length (-1) ps.length) s₉ hJ1 hJ2 hJ3 hJ4 (ro₁₇.none le₁₈ hJ1 hJ3) (fun j' m => m sSelf = some (.ref f) ∧ m sCh = some (Value.str ⟨#[ch]⟩ uch) ∧ ∀ q, ps.length - j' < q → q ≤ ps.length → hitAt ch (ps ++ [(f0, p0)]) q = false) ?_ ?_ c₁₈ ro₁₈ ⟨hself', hch', fun q a b => by (exact (om57 hlen hs1 hK hK1 a b).elim)⟩ (by simpa using it₁₈)
          · intro j' v m' s₂₁ hj' hJ' c₂₁ ro₂₁ hP'
            obtain ⟨tv, rfl⟩ := hP'
            obtain ⟨hself₁, hch₁, hno₁⟩ := hJ'
            obtain ⟨k, hk⟩ : ∃ k, k + j' = ps.length := ⟨ps.length - j', by (exact om58 hs1 hK hK1 hj')⟩
            rw [show (ps.length : Int) + (j' : Int) * (-1) = ((k : Nat) : Int) by (exact om59 hs1 hK hK1 hk)]
            refine wpAny_assign_Name (c_storeK c₂₁ fun s₂₂ c₂₂ k₂₂ => ?_)
            have hself₂ : (fun y => if y = sI then some (Value.int (k : Nat) tv) else m' y) sSelf = some (.ref f) := (if_neg (by decide)).trans hself₁
            have hch₂ : (fun y => if y = sI then some (Value.int (k : Nat) tv) else m' y) sCh = some (Value.str ⟨#[ch]⟩ uch) := (if_neg (by decide)).trans hch₁
            have hi₂ : (fun y => if y = sI then some (Value.int (k : Nat) tv) else m' y) sI = some (Value.int (k : Nat) tv) := if_pos rfl
            have ro₂₂ : Ro L s₂₁ s₂₂ := Ro.refl.but k₂₂
            refine wpAny_execs_cons ?_
            refine wpAny_mono (Q := fun fl s' => match fl with
              | .next => (Unicode.isSpace ch && ((((ps ++ [(f0, p0)])[k]?).bind fun p => p.1.cps.toList.head?) == some ch)) = false ∧ ∃ m, m sSelf = some (.ref f) ∧ m sCh = some (Value.str ⟨#[ch]⟩ uch) ∧ m sI = some (Value.int (k : Nat) tv) ∧ Cx w g [a, d, ls] s L m D s' ∧ Ro L s₂₁ s'
              | .brk => (Unicode.isSpace ch && ((((ps ++ [(f0, p0)])[k]?).bind fun p => p.1.cps.toList.head?) == some ch)) = true ∧ ∃ m, m sSelf = some (.ref f) ∧ m sI = some (Value.int (k : Nat) tv) ∧ Cx w g [a, d, ls] s L m D s'
              | _ => False) ?_ ?_ fun _ _ e => e
            · refine wpAny_If ?_
              refine isTrue_plain ?_
              refine MethodCall_ ?_
              refine c_name c₂₂ hch₂ ?_
              refine GM.isspace ?_
              refine callWith_method0 ?_
              refine SC.isspace ?_
              refine wpAny_truthy_bool ?_
              rw [isspace_one]
              cases hsp : Unicode.isSpace ch with
              | false =>
                rw [if_neg (by decide)]
                refine wpAny_execs_nil ?_
                exact ⟨by simp, (fun y => if y = sI then some (Value.int (k : Nat) tv) else m' y), hself₂, hch₂, hi₂, c₂₂, ro₂₂⟩
              | true =>
                rw [if_pos rfl]
                obtain ⟨vk, hvk, Tk, t1, t2, rfl, hTk, eTk⟩ := (Pc c₂₂).at_ k _ (List.getElem?_eq_getElem (by (exact om60 hs1 hK hK1 hk)))
                refine wpAny_execs_cons ?_
                refine wpAny_Assign_Name ?_
                refine Subscript_ ?_
                refine Subscript_ ?_
                refine fm_cur' c₂₂ hself₂ gf gfd fun s₂₃ c₂₃ e₂₃ => ?_
                refine c_name c₂₃ hi₂ ?_
                refine acc_item c₂₃.X (accI (c₂₃.get ma) (c₂₃.get md)) (by (exact Int.natCast_nonneg _)) (by omega) hvk ?_
                refine c_intK c₂₃ fun s₂₄ t₂₄ c₂₄ e₂₄ => ?_
                refine pair_item (j := 0) (by rw [e₂₄, e₂₃]; exact eTk) (by decide) (by decide) rfl rfl ?_
                refine c_storeK c₂₄ fun s₂₅ c₂₅ k₂₅ => ?_
                have ro₂₅ : Ro L s₂₁ s₂₅ := ((ro₂₂.eq e₂₃).eq e₂₄).but k₂₅
                have hq0 : (ps ++ [(f0, p0)])[k]? = some (ps ++ [(f0, p0)])[k] := List.getElem?_eq_getElem (by (exact om60 hs1 hK hK1 hk))
                have hqs := sizes_mem hq0
                unfold sizeOf' at hqs
                rw [hq0, Option.bind_some]
                generalize (ps ++ [(f0, p0)])[k] = q at *
                obtain ⟨m₂₅, hm₂₅⟩ : ∃ m₂₅, m₂₅ = (fun y => if y = sFws then some (Value.str q.1 t1) else (fun y => if y = sI then some (Value.int (k : Nat) tv) else m' y) y) := ⟨_, rfl⟩
                have hfws₅ : m₂₅ sFws = some (Value.str q.1 t1) := by rw [hm₂₅]; exact if_pos rfl
                have hself₅ : m₂₅ sSelf = some (.ref f) := by rw [hm₂₅]; exact (if_neg (by decide)).trans hself₂
                have hch₅ : m₂₅ sCh = some (Value.str ⟨#[ch]⟩ uch) := by rw [hm₂₅]; exact (if_neg (by decide)).trans hch₂
                have hi₅ : m₂₅ sI = some (Value.int (k : Nat) tv) := by rw [hm₂₅]; exact (if_neg (by decide)).trans hi₂
                replace c₂₅ : Cx w g [a, d, ls] s L m₂₅ D s₂₅ := hm₂₅ ▸ c₂₅
                refine wpAny_execs_cons ?_
                refine wpAny_If ?_
                refine isTrue_and ?_
                refine isTrue_plain ?_
                refine c_name c₂₅ hfws₅ ?_
                refine P.truthy_str (by lia) ?_
                have c₂₆ := c₂₅.ext (s' := { s₂₅ with toks := s₂₅.toks + 1 + 1 }) (fun _ _ e => e) rfl rfl
                cases hhd : q.1.cps.toList.head? with
                | none =>
                  have hl0 : q.1.length = 0 := by unfold Str.length; rw [← Array.length_toList, List.head?_eq_none_iff.mp hhd]; rfl
                  rw [hl0, if_neg (by decide), if_neg (by decide)]
                  refine wpAny_execs_nil ?_
                  refine wpAny_execs_nil ?_
                  exact ⟨by simp, m₂₅, hself₅, hch₅, hi₅, c₂₆, ro₂₅⟩
                | some c0 =>
                  have hl0 : ((q.1.length : Int) != 0) = true := by
                    have : q.1.length ≠ 0 := fun e => by
                      have : q.1.cps.toList = [] := List.length_eq_zero_iff.mp (by rw [Array.length_toList]; exact e)
                      rw [this] at hhd; cases hhd
                    exact bne_iff_ne.mpr (by (exact om62 this))
                  rw [hl0, if_pos rfl]
                  refine isTrue_and ?_
                  refine wpAny_isTrue_Compare1 ?_
                  refine Subscript_ ?_
                  refine c_name c₂₆ hfws₅ ?_
                  refine c_intK c₂₆ fun s₂₇ t₂₇ c₂₇ e₂₇ => ?_
                  refine sign_item (c := c0) (by decide) (seq0 hhd _ rfl) ?_
                  have c₂₈ := c₂₇.ext (s' := { s₂₇ with toks := s₂₇.toks + 1 }) (fun _ _ e => e) rfl rfl
                  have ro₂₈ : Ro L s₂₁ { s₂₇ with toks := s₂₇.toks + 1 } := ro₂₅.eq e₂₇
                  refine c_name c₂₈ hch₅ ?_
                  refine P.eq_str (wpAny_truthy_bool ?_)
                  have hb : ((#[c0] : Array Nat).toList == (#[ch] : Array Nat).toList) = (some c0 == some ch) := by
                    show ([c0] == [ch]) = _
                    simp
                  rw [hb]
                  cases hcc : (some c0 == some ch) with
                  | true =>
                    rw [if_pos rfl]
                    refine isTrue_and_nil ?_
                    rw [if_pos rfl]
                    refine wpAny_execs_cons (wpAny_Break ?_)
                    exact ⟨by simp, m₂₅, hself₅, hi₅, c₂₈⟩
                  | false =>
                    rw [if_neg (by decide), if_neg (by decide)]
                    refine wpAny_execs_nil ?_
                    refine wpAny_execs_nil ?_
                    exact ⟨by simp, m₂₅, hself₅, hch₅, hi₅, c₂₈, ro₂₈⟩
            · intro fl s₃₀ hmid
              have hkhit : ∀ b, (Unicode.isSpace ch && ((((ps ++ [(f0, p0)])[k]?).bind fun p => p.1.cps.toList.head?) == some ch)) = b → hitAt ch (ps ++ [(f0, p0)]) k = (b || ((((ps ++ [(f0, p0)])[k - 1]?).bind fun p => p.2.cps.toList.getLast?) == some ch)) := fun b e => by unfold hitAt; rw [e]
              have hfound : hitAt ch (ps ++ [(f0, p0)]) k = true → findK ch (ps ++ [(f0, p0)]) ps.length = some k := fun e => findK_some (by (exact om63 hs1 hK hK1 hj' hk)) e _ (by (exact om64 hs1 hK hK1 hk)) fun q a b => hno₁ q (by (exact om65 hs1 hK hK1 hj' hk a)) b
              match fl, hmid with
              | .brk, hm =>
                obtain ⟨hb, m₃, e4, e5, e6⟩ := hm
                refine hPm _ _ ?_
                exact ⟨k, tv, m₃, hfound (by rw [hkhit _ hb]; rfl), by (exact om63 hs1 hK hK1 hj' hk), by (exact om64 hs1 hK hK1 hk), e4, e5, e6⟩
              | .next, hm =>
                obtain ⟨hb, m₃, hself₃, hch₃, hi₃, c₃₀, ro₃₀⟩ := hm
                obtain ⟨vk, hvk, Tk, t1, t2, rfl, hTk, eTk⟩ := (Pc c₃₀).at_ (k - 1) _ (List.getElem?_eq_getElem (by (exact om66 hs1 hK hK1 hj' hk)))
                refine wpAny_execs_cons ?_
                refine wpAny_Assign_Name ?_
                refine Subscript_ ?_
                refine Subscript_ ?_
                refine fm_cur' c₃₀ hself₃ gf gfd fun s₃₁ c₃₁ e₃₁ => ?_
                refine wpAny_BinOp ?_
                refine c_name c₃₁ hi₃ ?_
                refine c_intK c₃₁ fun s₃₂ t₃₂ c₃₂ e₃₂ => ?_
                refine sub_int ?_
                have c₃₃ := c₃₂.ext (s' := { s₃₂ with toks := s₃₂.toks + 1 }) (fun _ _ e => e) rfl rfl
                rw [show ((k : Nat) : Int) - 1 = (((k - 1 : Nat)) : Int) by (exact om67 hs1 hK hK1 hj' hk)]
                refine acc_item c₃₃.X (accI (c₃₃.get ma) (c₃₃.get md)) (by (exact Int.natCast_nonneg _)) (by omega) hvk ?_
                refine c_intK c₃₃ fun s₃₄ t₃₄ c₃₄ e₃₄ => ?_
                have eTk' : s₃₄.heap.get? Tk = some (tupObj #[.str (ps ++ [(f0, p0)])[k - 1].1 t1, .str (ps ++ [(f0, p0)])[k - 1].2 t2]) := by rw [e₃₄]; show s₃₂.heap.get? Tk = _; rw [e₃₂, e₃₁]; exact eTk
                refine pair_item (j := 1) eTk' (by decide) (by decide) rfl rfl ?_
                refine c_storeK c₃₄ fun s₃₅ c₃₅ k₃₅ => ?_
                have ro₃₄ : Ro L s₂₁ s₃₄ := fun b o h1 h2 e => by rw [e₃₄]; show s₃₂.heap.get? b = _; rw [e₃₂, e₃₁]; exact ro₃₀ b o h1 h2 e
                have ro₃₅ : Ro L s₂₁ s₃₅ := ro₃₄.but k₃₅
                have hq0 : (ps ++ [(f0, p0)])[k - 1]? = some (ps ++ [(f0, p0)])[k - 1] := List.getElem?_eq_getElem (by (exact om66 hs1 hK hK1 hj' hk))
                have hqs := sizes_mem hq0
                unfold sizeOf' at hqs
                rw [hq0, Option.bind_some] at hkhit
                have hkk := hkhit _ hb
                rw [Bool.false_or] at hkk
                generalize (ps ++ [(f0, p0)])[k - 1] = q at *
                obtain ⟨m₃₅, hm₃₅⟩ : ∃ m₃₅, m₃₅ = (fun y => if y = sPrev then some (Value.str q.2 t2) else m₃ y) := ⟨_, rfl⟩
                have hprev₅ : m₃₅ sPrev = some (Value.str q.2 t2) := by rw [hm₃₅]; exact if_pos rfl
                have hself₅ : m₃₅ sSelf = some (.ref f) := by rw [hm₃₅]; exact (if_neg (by decide)).trans hself₃
                have hch₅ : m₃₅ sCh = some (Value.str ⟨#[ch]⟩ uch) := by rw [hm₃₅]; exact (if_neg (by decide)).trans hch₃
                have hi₅ : m₃₅ sI = some (Value.int (k : Nat) tv) := by rw [hm₃₅]; exact (if_neg (by decide)).trans hi₃
                replace c₃₅ : Cx w g [a, d, ls] s L m₃₅ D s₃₅ := hm₃₅ ▸ c₃₅
                have hstep : hitAt ch (ps ++ [(f0, p0)]) k = false → ∀ q, ps.length - (j' + 1) < q → q ≤ ps.length → hitAt ch (ps ++ [(f0, p0)]) q = false := fun e q h1 h2 => by
                  rcases Nat.lt_or_ge (ps.length - j') q with h | h
                  · exact hno₁ q h h2
                  · have : q = k := by (exact om68 hs1 hK hK1 hj' hk h1 h)
                    rw [this]; exact e
                refine wpAny_execs_cons ?_
                refine wpAny_If ?_
                refine isTrue_and ?_
                refine isTrue_plain ?_
                refine c_name c₃₅ hprev₅ ?_
                refine P.truthy_str (by lia) ?_
                have c₃₆ := c₃₅.ext (s' := { s₃₅ with toks := s₃₅.toks + 1 + 1 }) (fun _ _ e => e) rfl rfl
                cases hhd : q.2.cps.toList.getLast? with
                | none =>
                  have hl0 : q.2.length = 0 := by unfold Str.length; rw [← Array.length_toList, List.getLast?_eq_none_iff.mp hhd]; rfl
                  rw [hl0, if_neg (by decide), if_neg (by decide)]
                  refine wpAny_execs_nil ?_
                  refine wpAny_execs_nil ?_
                  rw [hhd] at hkk
                  exact ⟨m₃₅, ⟨hself₅, hch₅, hstep (by rw [hkk]; rfl)⟩, c₃₆, ro₃₅⟩
                | some c0 =>
                  have hl0 : ((q.2.length : Int) != 0) = true := by
                    have : q.2.length ≠ 0 := fun e => by
                      have : q.2.cps.toList = [] := List.length_eq_zero_iff.mp (by rw [Array.length_toList]; exact e)
                      rw [this] at hhd; cases hhd
                    exact bne_iff_ne.mpr (by (exact om62 this))
                  rw [hl0, if_pos rfl]
                  refine isTrue_and ?_
                  refine wpAny_isTrue_Compare1 ?_
                  refine Subscript_ ?_
                  refine c_name c₃₆ hprev₅ ?_
                  refine UnaryOp_ ?_
                  refine c_intK c₃₆ fun s₃₇ t₃₇ c₃₇ e₃₇ => ?_
                  refine PyProof.Rows.neg_int ?_
                  refine sign_item (c := c0) (by decide) (seqLast hhd _ rfl) ?_
                  have c₃₈ := c₃₇.ext (s' := { s₃₇ with toks := s₃₇.toks + 1 + 1 }) (fun _ _ e => e) rfl rfl
                  have ro₃₈ : Ro L s₂₁ { s₃₇ with toks := s₃₇.toks + 1 + 1 } := ro₃₅.eq e₃₇
                  refine c_name c₃₈ hch₅ ?_
                  refine P.eq_str (wpAny_truthy_bool ?_)
                  have hbb : ((#[c0] : Array Nat).toList == (#[ch] : Array Nat).toList) = (some c0 == some ch) := by
                    show ([c0] == [ch]) = _
                    simp
                  rw [hbb]
                  rw [hhd] at hkk
                  cases hcc : (some c0 == some ch) with
                  | true =>
                    rw [if_pos rfl]
                    refine isTrue_and_nil ?_
                    rw [if_pos rfl]
                    refine wpAny_execs_cons (wpAny_Break ?_)
                    refine hPm _ _ ?_
                    exact ⟨k, tv, m₃₅, hfound (by rw [hkk, hcc]), by (exact om63 hs1 hK hK1 hj' hk), by (exact om64 hs1 hK hK1 hk), hself₅, hi₅, c₃₈⟩
                  | false =>
                    rw [if_neg (by decide), if_neg (by decide)]
                    refine wpAny_execs_nil ?_
                    refine wpAny_execs_nil ?_
                    exact ⟨m₃₅, ⟨hself₅, hch₅, hstep (by rw [hkk, hcc])⟩, c₃₈, ro₃₈⟩
          · intro m' s₂₁ hJ' c₂₁ ro₂₁
            obtain ⟨hself₁, hch₁, hno₁⟩ := hJ'
            refine wpAny_execs_cons (wpAny_Continue ?_)
            refine hPm _ _ ?_
            exact ⟨findK_none _ fun q a b => hno₁ q (by (exact om70 hlen hs1 hK hK1 a b)) b, m', hself₁, c₂₁, ro₂₁⟩
        · intro fl s₂₀ hmid
          match fl, hmid with
          | .next, hm =>
            refine wpAny_execs_cons (wpAny_Break ?_)
            obtain ⟨k, u, m', e1, e2, e3, e4, e5, e6⟩ := hm
            refine hPo _ _ ?_
            refine ⟨k, u, m', ?_, e2, e3, e4, e5, e6⟩
            unfold findAll
            rw [hK1, Nat.add_sub_cancel]
            exact findSome_at (j := j) (by rw [Array.getElem?_toList]; exact hch) (fun j' c' h1 h2 => hno j' c' h1 (by rw [← Array.getElem?_toList]; exact h2)) e1
          | .cont, hm =>
            obtain ⟨e1, m', e4, e6, e7⟩ := hm
            refine ⟨m', ⟨e4, fun j₁ c' hj₁ hc' => ?_⟩, e6, e7⟩
            rcases Nat.lt_or_ge j₁ j with hlt | hge
            · exact hno j₁ c' hlt hc'
            · have : j₁ = j := by (exact om71 hj₁ hge)
              subst this
              rw [hch] at hc'; cases hc'
              exact e1
      · intro m s₉ hJ c₉ ro₉
        subst hD
        obtain ⟨hself, hno⟩ := hJ
        have hfind : findAll sp.cps.toList (ps ++ [(f0, p0)]) = none := by
          unfold findAll
          rw [hK1, Nat.add_sub_cancel]
          refine findSome_no fun j c' hc => hno j c' ?_ (by rw [← Array.getElem?_toList]; exact hc)
          have := (List.getElem?_eq_some_iff.mp hc).1
          simpa using this
        refine wpAny_execs_cons ?_
        refine Assign_Tuple ?_
        refine MethodCall_ ?_
        refine fm_cur' c₉ hself gf gfd fun s₁₀ c₁₀ e₁₀ => ?_
        refine acc_meth (f := 138) c₁₀.X (accI (c₁₀.get (.tail _ (.head _))) (c₁₀.get (.tail _ (.tail _ (.head _))))) ?_
        refine callWith_K0 (K := KK w) c₁₀.X (by kernel_rfl) ?_
        refine pop_any c₁₀.ok (r.deep.room 1) (Yc c₁₀) (Pc c₁₀) (by (exact om72 hlen hs1 hK hK1)) fun s₁₁ U q ps0 its0 n0 t1 t2 O₁₁ S₁₁ Y₁₁ P₁₁ eU hU hcase hmem => ?_
        obtain ⟨rfl, rfl⟩ : ps0 = ps ∧ q = (f0, p0) := by
          rcases hcase with e | ⟨e, _, _⟩
          · have := List.append_inj' e rfl
            exact ⟨this.1.symm, by simpa using this.2.symm⟩
          · simp at e
        have hTa : T ≠ a := fun e => by
          have := c₁₀.get (.head _)
          rw [e, c₁₀.get (.tail _ (.head _))] at this; cases this
        have c₁₁ := c₁₀.call1 (Upd.tail hTa (Upd.head (fun x hx => by
          cases hx with | head => exact hda | tail _ hx => cases hx with | head => exact dls | tail _ h => cases h))) S₁₁ O₁₁ Y₁₁.oa
        refine wpAny_assign_Tuple (by exact r.hd) ⟨_, eU, rfl, _, rfl⟩ rfl rfl fun h₁₂ hx₁₂ => ?_
        have k₁₂ : ∀ b o, s₁₁.heap.get? b = some o → h₁₂.get? b = some o := fun b o e => hx₁₂ b o (Nat.ne_of_lt (Heap.lt_size e)) e
        have c₁₂ := c₁₁.ext (s' := { s₁₁ with heap := h₁₂ }) k₁₂ rfl rfl
        show wpAny _ _ (do holding [_] (assign (.Name _ _) _ _); do holding [] (assign (.Name _ _) _ _); pure ()) _ _ _
        refine wpAny_bind (wpAny_holding (wpAny_assign_Name (c_storeK c₁₂ fun s₁₃ c₁₃ k₁₃ => ?_)))
        refine wpAny_bind (wpAny_holding (wpAny_assign_Name (c_storeK c₁₃ fun s₁₄ c₁₄ k₁₄ => wpAny_pure ?_)))
        have P₁₄ : PairsAt s₁₄.heap its0 ps0 := c₁₃.pairs (c₁₂.pairs (s' := s₁₃) (P₁₁.keeps k₁₂) k₁₃) k₁₄
        obtain ⟨m₁₄, hm₁₄⟩ : ∃ m₁₄, m₁₄ = (fun y => if y = sPart then some (Value.str p0 t2) else (fun y => if y = sFws then some (Value.str f0 t1) else m y) y) := ⟨_, rfl⟩
        have hpart : m₁₄ sPart = some (Value.str p0 t2) := by rw [hm₁₄]; exact if_pos rfl
        have hfws : m₁₄ sFws = some (Value.str f0 t1) := by rw [hm₁₄]; exact (if_neg (by decide)).trans (if_pos rfl)
        have hself₁ : m₁₄ sSelf = some (.ref f) := by rw [hm₁₄]; exact (if_neg (by decide)).trans ((if_neg (by decide)).trans hself)
        replace c₁₄ : Cx w g [a, d, ls] s L m₁₄ [(a, accObj d its0 n0), (d, accDict hh tk i t), (ls, listObj (strValues ll).toArray nl)] s₁₄ := (show Cx w g [a, d, ls] s L m₁₄ _ s₁₄ from hm₁₄ ▸ c₁₄).drop fun p hp => .tail _ hp
        have hsz0 : sizes ps0 ≤ 100000 := by
          have := sizes_append ps0 [(f0, p0)]
          have := sizes_nonneg [(f0, p0)]
          (exact om73 hsz (by assumption) this)
        refine wpAny_execs_cons ?_
        refine wpAny_mono (Q := fun fl s' => match fl with
          | .next => ∃ m fv tfv its2 n2 ps2 hh2 tk2 i2 t2' ll2 nl2, m sSelf = some (.ref f) ∧ m sFws = some (Value.str fv tfv) ∧ m sPart = some (Value.str p0 t2) ∧ chunk W sp.cps.toList (lines, ps0, i) (f0, p0) = (ll2.map (·.1), ps2 ++ [(fv, p0)], i2) ∧ its2.size ≤ 1000 ∧ (∀ U, Value.ref U ∈ its2.toList → Value.ref U ∈ its.toList ∨ s.heap.objs.size ≤ U) ∧
              Cx w g [a, d, ls] s L m [(a, accObj d its2 n2), (d, accDict hh2 tk2 i2 t2'), (ls, listObj (strValues ll2).toArray nl2)] s' ∧ PairsAt s'.heap its2 ps2
          | _ => False) ?_ ?_ fun _ _ e => e
        · refine wpAny_mid fun P' hPm => ?_
          refine wpAny_If (wpAny_isTrue_Compare1 ?_)
          refine Attribute_any_ ?_
          refine fm_cur' c₁₄ hself₁ gf gfd fun s₁₅ c₁₅ e₁₅ => ?_
          refine acc_init c₁₅.X (accI (c₁₅.get (.head _)) (c₁₅.get (.tail _ (.head _)))) ?_
          have c₁₆ := c₁₅.ext (s' := { s₁₅ with toks := s₁₅.toks + 1 }) (fun _ _ e => e) rfl rfl
          refine c_intK c₁₆ fun s₁₇ t₁₇ c₁₇ e₁₇ => ?_
          have P₁₇ : PairsAt s₁₇.heap its0 ps0 := by rw [e₁₇]; show PairsAt s₁₅.heap its0 ps0; rw [e₁₅]; exact P₁₄
          refine gt_int (wpAny_truthy_bool ?_)
          by_cases hi0 : 0 < i
          · rw [decide_eq_true hi0, if_pos rfl]
            refine wpAny_execs_cons ?_
            refine wpAny_Expr ?_
            refine MethodCall_ ?_
            refine c_name c₁₇ hself₁ ?_
            refine fm_meth (q := 56) c₁₇.X (fmI (c₁₇.base gf) (c₁₇.base gfd)) ?_
            refine callWith_K0 (K := KK w) c₁₇.X (by kernel_rfl) ?_
            have hlast : ∀ q, ps0.getLast? = some q → q.2 ≠ ofL [] := fun q hq => hne q (List.mem_append_left _ (List.mem_of_getLast? hq))
            have hs0 := sizes_nonneg ps0
            refine newline_ok (lines := lines) c₁₇.ok r.deep.le ⟨lf, lfd, c₁₇.base gf, p, c₁₇.base gfd⟩ ⟨la, ld, c₁₇.get (.head _), hh, tk, t, c₁₇.get (.tail _ (.head _))⟩ P₁₇ ⟨lls, ll, nl, c₁₇.get (.tail _ (.tail _ (.head _))), hl⟩ hi hsz0 (by (exact om74 hlen hs1 hK hK1)) (by (exact om75 hll)) hlast (by (exact om76 hi hsz0 hi0 hs0)) (.inl (by (exact om77 hi hi0))) fun s₁₈ n₁₈ O₁₈ S₁₈ Y₁₈ L₁₈ => ?_
            obtain ⟨_, _, oa₁₈, hh', tk', t', od₁₈⟩ := Y₁₈
            obtain ⟨_, ll', nl', ols₁₈, hl'⟩ := L₁₈
            have na := (c₁₇.N (a, accObj d its0 n0) (.head _)).2
            have nd := (c₁₇.N (d, accDict hh tk i t) (.tail _ (.head _))).2
            have nls := (c₁₇.N (ls, listObj (strValues ll).toArray nl) (.tail _ (.tail _ (.head _)))).2
            have c₁₈ : Cx w g [a, d, ls] s L m₁₄ [(a, accObj d #[] n₁₈), (d, accDict hh' tk' 0 t'), (ls, listObj (strValues ll').toArray nl')] s₁₈ := c₁₇.call S₁₈ O₁₈ (fun x hx => by
                simp only [List.mem_cons, List.not_mem_nil, or_false] at hx
                rcases hx with rfl | rfl | rfl <;> assumption) (fun q hq => by
                simp only [List.mem_cons, List.not_mem_nil, or_false] at hq
                rcases hq with rfl | rfl | rfl
                · exact ⟨oa₁₈, na⟩
                · exact ⟨od₁₈, nd⟩
                · exact ⟨ols₁₈, nls⟩) (fun q hq => by
                simp only [List.mem_cons, List.not_mem_nil, or_false] at hq
                rcases hq with rfl | rfl | rfl <;> assumption)
            have hchunk : ∀ fv, fv = (if f0 = ofL [] then ofL [32] else f0) → chunk W sp.cps.toList (lines, ps0, i) (f0, p0) = (ll'.map (·.1), [] ++ [(fv, p0)], 0) := fun fv e => by
              unfold chunk
              rw [if_neg hW]
              simp only [hfind]
              rw [if_pos hi0, hl', e]
              rfl
            have hf0s : (f0.length : Int) ≤ 100000 := by
              have := sizes_append ps0 [(f0, p0)]
              have h2 : sizes [(f0, p0)] = (f0.length : Int) + p0.length := by simp [sizes, sizeOf']
              (exact om78 hsz hsz0 hs0 this h2)
            refine wpAny_execs_cons ?_
            refine wpAny_If ?_
            refine isTrue_not ?_
            refine isTrue_plain ?_
            refine c_name c₁₈ hfws ?_
            refine P.truthy_str (by lia) ?_
            have c₁₉ := c₁₈.ext (s' := { s₁₈ with toks := s₁₈.toks + 1 + 1 }) (fun _ _ e => e) rfl rfl
            by_cases hf0 : f0 = ofL []
            · have hl0 : (!((f0.length : Int) != 0)) = true := by rw [hf0]; rfl
              rw [hl0, if_pos rfl]
              refine wpAny_execs_cons ?_
              refine wpAny_Assign_Name ?_
              refine c_strK c₁₉ fun s₂₀ t₂₀ c₂₀ e₂₀ => ?_
              refine c_storeK c₂₀ fun s₂₁ c₂₁ k₂₁ => ?_
              refine wpAny_execs_nil ?_
              refine wpAny_execs_nil ?_
              refine hPm _ _ ?_
              refine ⟨_, ofL [32], t₂₀, #[], n₁₈, [], hh', tk', 0, t', ll', nl', ?_, ?_, ?_, hchunk _ (by rw [if_pos hf0]), by simp, (fun _ h => nomatch h), c₂₁, ⟨rfl, fun j q hq => by simp at hq⟩⟩
              · exact (if_neg (by decide)).trans hself₁
              · exact if_pos rfl
              · exact (if_neg (by decide)).trans hpart
            · have hl0 : (!((f0.length : Int) != 0)) = false := by
                have : f0.length ≠ 0 := fun e => hf0 (by
                  rw [← ofL_toList f0]
                  have : f0.cps.toList = [] := List.length_eq_zero_iff.mp (by rw [Array.length_toList]; exact e)
                  rw [this])
                rw [bne_iff_ne.mpr (show (f0.length : Int) ≠ 0 by (exact om62 this))]; rfl
              rw [hl0, if_neg (by decide)]
              refine wpAny_execs_nil ?_
              refine wpAny_execs_nil ?_
              refine hPm _ _ ?_
              exact ⟨m₁₄, f0, t1, #[], n₁₈, [], hh', tk', 0, t', ll', nl', hself₁, hfws, hpart, hchunk _ (by rw [if_neg hf0]), by simp, (fun _ h => nomatch h), c₁₉, ⟨rfl, fun j q hq => by simp at hq⟩⟩
          · rw [decide_eq_false hi0, if_neg (by decide)]
            refine wpAny_execs_nil ?_
            refine hPm _ _ ?_
            refine ⟨m₁₄, f0, t1, its0, n0, ps0, hh, tk, i, t, ll, nl, hself₁, hfws, hpart, ?_, by rw [P₁₇.size]; (exact om74 hlen hs1 hK hK1), (fun U hU => memT U (hmem _ hU)), c₁₇, P₁₇⟩
            unfold chunk
            rw [if_neg hW]
            simp only [hfind]
            rw [if_neg hi0, hl]
        · intro fl s₂₀ hmid
          match fl, hmid with
          | .next, hm =>
            obtain ⟨m₂, fv, tfv, its2, n2, ps2, hh2, tk2, i2, t2', ll2, nl2, hs2, hf2, hp2, hchunk, hsz2, hmem2, c₂₀, P₂₀⟩ := hm
            refine wpAny_execs_cons ?_
            refine wpAny_Expr ?_
            refine MethodCall_ ?_
            refine fm_cur' c₂₀ hs2 gf gfd fun s₂₁ c₂₁ e₂₁ => ?_
            refine acc_meth (f := 122) c₂₁.X (accI (c₂₁.get (.head _)) (c₂₁.get (.tail _ (.head _)))) ?_
            refine callWith_K (K := KK w) c₂₁.X (by kernel_rfl) ?_
            refine spliced_more (c_name c₂₁ hf2 (spliced_more (c_name c₂₁ hp2 (spliced_none ?_))))
            refine ⟨c₂₁.X, ?_⟩
            refine push_ok c₂₁.ok (show A.depth + 1 < recursionLimit from r.room 1) ⟨la, ld, c₂₁.get (.head _), hh2, tk2, t2', c₂₁.get (.tail _ (.head _))⟩ (by (exact om29 hsz2)) fun s₂₂ T₂ O₂₂ S₂₂ Y₂₂ eT₂ ltT₂ => ?_
            have S₂₁ := c₂₁.st
            refine wpAny_execs_cons (wpAny_Return_none ?_)
            refine hPo _ _ ?_
            refine h s₂₂ _ _ _ _ _ hchunk O₂₂ ((S₂₁.trans S₂₂).sub fun x hx => ?_) Y₂₂ ((PairsAt.st (s := s₂₁) (by rw [e₂₁]; exact P₂₀) S₂₂ fun b hb vs e => ?_).push ⟨T₂, tfv, t2, rfl, Nat.le_of_lt (Nat.lt_of_le_of_lt big (Nat.lt_trans c₂₁.lt ltT₂)), eT₂⟩) ⟨lls, ll2, nl2, S₂₂.keep ls _ (by simp [dls]) (not_tab lls) (c₂₁.get (.tail _ (.tail _ (.head _)))), rfl⟩ (fun U hU => by
              rw [Array.toList_push] at hU
              rcases List.mem_append.mp hU with h1 | h1
              · exact hmem2 U h1
              · rw [List.mem_singleton] at h1; cases h1; exact .inr (Nat.le_of_lt (Nat.lt_trans c₂₁.lt ltT₂)))
            · simp only [List.mem_append, List.mem_cons, List.not_mem_nil, or_false] at hx ⊢
              rcases hx with (rfl | rfl | rfl) | rfl <;> simp
            · rw [List.mem_singleton] at hb; subst hb; rw [c₂₁.get (.head _)] at e; cases e
    · intro fl s₇ hmid
      match fl, hmid with
      | .ret v, hm => exact hm
      | .next, hm =>
        obtain ⟨k, u, m, hfind, hk1, hk2, hself, hi', c₇⟩ := hm
        refine wpAny_execs_cons ?_
        refine wpAny_Assign_Name ?_
        refine MethodCall_ ?_
        refine fm_cur' c₇ hself gf gfd fun s₈ c₈ e₈ => ?_
        refine acc_meth (f := 130) c₈.X (accI (c₈.get (.tail _ (.head _))) (c₈.get (.tail _ (.tail _ (.head _))))) ?_
        refine callWith_K (K := KK w) c₈.X (by kernel_rfl) ?_
        refine spliced_more (c_name c₈ hi' (spliced_none ?_))
        refine ⟨c₈.X, ?_⟩
        have P₈ := Pc c₈
        refine pop_from_ok (k := k) c₈.ok (show A.depth + 1 < recursionLimit from r.room 1) (Yc c₈) (by (exact om80 hlen hs1 hK hK1)) (by (exact om81 hs1 hK hK1 hk2)) fun s₉ l n₉ O₉ S₉ Y₉ el ltl => ?_
        have hTa : T ≠ a := fun e => by
          have := c₈.get (.head _)
          rw [e, c₈.get (.tail _ (.head _))] at this; cases this
        have c₉ := (c₈.call1 (Upd.tail hTa (Upd.head (fun x hx => by
          cases hx with | head => exact hda | tail _ hx => cases hx with | head => exact dls | tail _ h => cases h))) S₉ O₉ Y₉.oa).new el (Nat.lt_trans c₈.lt ltl)
        have P₉ : PairsAt s₉.heap (its.push (.ref T)) (ps ++ [(f0, p0)]) := P₈.st S₉ fun b hb vs e => by
          rw [List.mem_singleton] at hb; subst hb; rw [c₈.get (.tail _ (.head _))] at e; cases e
        refine c_storeK c₉ fun s₁₀ c₁₀ k₁₀ => ?_
        have P₁₀ := c₉.pairs P₉ k₁₀
        have hself₁ : (fun y => if y = (Str.ofString "remainder") then some (Value.ref l) else m y) sSelf = some (.ref f) := (if_neg (by decide)).trans hself
        have hk3 : k ≤ (ps ++ [(f0, p0)]).length := by (exact om82 hs1 hK hK1 hk2)
        have hPt := P₁₀.take hk3
        have hst := sizes_take_le (ps ++ [(f0, p0)]) k
        have hls : (strValues ll).toArray.size = lines.length := by rw [← hl]; simp [strValues]
        refine wpAny_execs_cons ?_
        refine wpAny_Expr ?_
        refine MethodCall_ ?_
        refine fm_lines' c₁₀ hself₁ gf gfd fun s₁₁ c₁₁ e₁₁ => ?_
        refine getMethod_list_append (c₁₁.get (.tail _ (.tail _ (.tail _ (.tail _ (.head _)))))) rfl rfl ?_
        refine callWith_method1 ?_
        refine spliced_more ?_
        refine Call_ ?_
        refine c_built c₁₁ (v := .type "str") ?_ ?_ ?_ ?_
        · kernel_rfl
        · kernel_rfl
        · decide
        refine callWith_type_1 ?_
        refine fm_cur' c₁₁ hself₁ gf gfd fun s₁₂ c₁₂ e₁₂ => ?_
        have P₁₂ : PairsAt s₁₂.heap (its.push (.ref T)) (ps ++ [(f0, p0)]) := by rw [e₁₂, e₁₁]; exact P₁₀
        refine str_call (ps := (ps ++ [(f0, p0)]).take k) c₁₂.ok r.deep.le ⟨la, ld, c₁₂.get (.tail _ (.tail _ (.head _))), hh, tk, t, c₁₂.get (.tail _ (.tail _ (.tail _ (.head _))))⟩ (by rw [e₁₂, e₁₁]; exact hPt) (by (exact om83 hsz hst)) (by simp; (exact om84 hlen hs1 hK hK1 hk2)) fun s₁₃ t₁₃ O₁₃ S₁₃ => ?_
        have c₁₃ := c₁₂.call0 S₁₃ O₁₃
        have P₁₃ : PairsAt s₁₃.heap (its.push (.ref T)) (ps ++ [(f0, p0)]) := P₁₂.st S₁₃ fun _ h => nomatch h
        refine spliced_none ?_
        refine list_app (c₁₃.get (.tail _ (.tail _ (.tail _ (.tail _ (.head _)))))) (by (exact om51 hll hls)) fun s₁₄ hs₁₄ e₁₄ hg₁₄ ho₁₄ => ?_
        have hlls : l ≠ ls := fun e => by
          have := c₁₃.get (.head _)
          rw [e] at this
          have h2 := Heap.lt_size ols
          exact absurd h2 (by rw [← e]; exact Nat.not_lt.mpr (Nat.le_of_lt (Nat.lt_trans c₈.lt ltl)))
        have hTls : T ≠ ls := fun e => absurd (Heap.lt_size ols) (by rw [← e]; exact Nat.not_lt.mpr (Nat.le_of_lt (Nat.lt_trans c₂.lt ltT)))
        have c₁₄ := c₁₃.upd (Upd.tail hlls (Upd.tail hTls (Upd.tail (Ne.symm dls) (Upd.tail (Ne.symm dld) (Upd.head (fun _ h => nomatch h)))))) lls hs₁₄ e₁₄ hg₁₄ ho₁₄
        have P₁₄ : PairsAt s₁₄.heap (its.push (.ref T)) (ps ++ [(f0, p0)]) := P₁₃.high' fun b o vs e hb eo => hs₁₄.extBut b o (fun q => by
          rw [q] at eo
          have := c₁₃.get (.tail _ (.tail _ (.tail _ (.tail _ (.head _)))))
          rw [eo, e] at this
          have := congrArg (fun o => o.map Obj.cls) this; simp at this) eo
        refine wpAny_execs_cons ?_
        refine wpAny_Expr ?_
        refine MethodCall_ ?_
        refine fm_cur' c₁₄ hself₁ gf gfd fun s₁₅ c₁₅ e₁₅ => ?_
        refine acc_meth (f := 160) c₁₅.X (accI (c₁₅.get (.tail _ (.tail _ (.head _)))) (c₁₅.get (.tail _ (.tail _ (.tail _ (.head _)))))) ?_
        refine callWith_K (K := KK w) c₁₅.X (by kernel_rfl) ?_
        refine spliced_more (c_name c₁₅ (if_pos rfl) (spliced_none ?_))
        refine ⟨c₁₅.X, ?_⟩
        have P₁₅ : PairsAt s₁₅.heap (its.push (.ref T)) (ps ++ [(f0, p0)]) := by rw [e₁₅]; exact P₁₄
        have ll238 : (221 : Nat) ≤ l := Nat.le_of_lt (Nat.lt_of_le_of_lt big (Nat.lt_trans c₈.lt ltl))
        refine reset_ok c₁₅.ok (show A.depth + 1 < recursionLimit from r.room 1) ⟨la, ld, c₁₅.get (.tail _ (.tail _ (.head _))), hh, tk, t, c₁₅.get (.tail _ (.tail _ (.tail _ (.head _))))⟩ ll238 (c₁₅.get (.head _)) (by simp; (exact om85 hlen hs1 hK hK1 hk2)) fun s₁₆ n₁₆ O₁₆ S₁₆ Y₁₆ => ?_
        refine wpAny_execs_nil ?_
        refine wpAny_execs_nil ?_
        have S₁₅ := c₁₅.st
        have P₁₆ : PairsAt s₁₆.heap (its.push (.ref T)) (ps ++ [(f0, p0)]) := P₁₅.st S₁₆ fun b hb vs e => by
          simp only [List.mem_cons, List.not_mem_nil, or_false] at hb
          rcases hb with rfl | rfl
          · rw [c₁₅.get (.tail _ (.tail _ (.head _)))] at e; cases e
          · rw [c₁₅.get (.tail _ (.tail _ (.tail _ (.head _))))] at e; have := congrArg (fun o => o.map Obj.data) e; cases this
        refine h s₁₆ _ n₁₆ ((ps ++ [(f0, p0)]).drop k) 0 (lines ++ [ofL (flat ((ps ++ [(f0, p0)]).take k))]) ?_ O₁₆ ((S₁₅.trans S₁₆).sub fun x hx => ?_) Y₁₆ (P₁₆.drop hk3) ⟨lls, ll ++ [(ofL (flat ((ps ++ [(f0, p0)]).take k)), t₁₃)], nl + 1, S₁₆.keep ls _ (by simp [dls, dld]) (not_tab lls) ?_, ?_⟩ (fun U hU => memT U (by rw [Array.toList_extract] at hU; exact List.mem_of_mem_drop (List.mem_of_mem_take hU)))
        · unfold chunk
          rw [if_neg hW]
          simp only [hfind]
        · simp only [List.map_cons, List.map_nil, List.mem_append, List.mem_cons, List.not_mem_nil, or_false] at hx ⊢
          rcases hx with (rfl | rfl | rfl) | rfl | rfl <;> simp
        · have e := c₁₅.get (.tail _ (.tail _ (.tail _ (.tail _ (.head _)))))
          rw [e]
          simp [strValues]
        · simp [hl]
end
end Mine
end

section
open PySem PySem.W PySem.Calls PyProof.Rows
set_option maxRecDepth 100000
set_option maxHeartbeats 8000000
namespace Mine
section
variable {w : World} {A : Around} {E : Value → Shared → Prop} {s : Shared} {f fd ls a d : Addr} {W : Int} {ws sp : Str} {its : Array Value} {n : Nat} {i : Int} {ps : List (Str × Str)} {lines : List Str} {Q : Value → Shared → Prop}
theorem str2_ok {sep : Str} {ts : Tok} (O : Ok w s) (r : Rm A 10) (F : FmAt s.heap f fd ls a W ws sp) (Y : AccAt s.heap a d its n i) (Ps : PairsAt s.heap its ps) (Ls : LinesAt s.heap ls lines)
    (hi : 0 ≤ i ∧ i ≤ 1000) (hsz : sizes ps ≤ 100000) (hlen : ps.length ≤ 1000) (hll : lines.length ≤ 1000)
    (hlast : ∀ q, ps.getLast? = some q → q.2 ≠ ofL []) (hpos : 0 < i + sizes ps) (hws : i ≠ 0 ∨ Txt.isspace (ofL (flat ps)) = false) (hjoin : JoinOk sep (lines ++ [ofL (flat ps)]) = true)
    (h : ∀ s' t', Ok w s' → St [a, d, ls] s s' → Q (.str (Txt.join sep (lines ++ [ofL (flat ps)])) t') s') :
    wpAny (model PG w) A (call (.ref 42) [.ref f, .str sep ts]) Q E s := by
  obtain ⟨la, ld, oa, hh, tk, t, od⟩ := Y
  obtain ⟨lf, lfd, of, p, ofd⟩ := F
  obtain ⟨lls, ll, nl, ols, hl⟩ := Ls
  obtain ⟨dls, dld, fa, fd', fls, da, dd, dl, hda⟩ := fm_ne oa od of ofd ols
  refine c_enter (binds := [("self", .ref f), ("linesep", .str sep ts)]) [(a, accObj d its n), (d, accDict hh tk i t), (ls, listObj (strValues ll).toArray nl)] O r.room (own3 la oa ld od lls ols) fun g L s₁ c => ?_
  have gf : g.get? f = some (instObj 94 fd) := c.B.all f _ (by simp [fa, fd', fls]) (not_tab lf) of
  have gfd : g.get? fd = some (fmDict p W ws sp ls a) := c.B.all fd _ (by simp [da, dd, dl]) (not_tab lfd) ofd
  have Pg : PairsAt g its ps := pairs_g (p := p) c.B (fun x hx => by simpa using hx) oa od ols Ps
  refine wpAny_execs_cons ?_
  refine wpAny_Expr ?_
  refine MethodCall_ ?_
  refine c_name c rfl ?_
  refine fm_meth (q := 56) c.X (fmI (c.base gf) (c.base gfd)) ?_
  refine callWith_K0 (K := KK w) c.X (by kernel_rfl) ?_
  refine newline_ok (lines := lines) c.ok r.deep.le ⟨lf, lfd, c.base gf, p, c.base gfd⟩ ⟨la, ld, c.get (.head _), hh, tk, t, c.get (.tail _ (.head _))⟩ (Pg.keeps fun b o e => c.base e) ⟨lls, ll, nl, c.get (.tail _ (.tail _ (.head _))), hl⟩ hi hsz hlen hll hlast hpos hws fun s₂ n₂ O₂ S₂ Y₂ L₂ => ?_
  obtain ⟨_, _, oa₂, hh', tk', t', od₂⟩ := Y₂
  obtain ⟨_, ll', nl', ols₂, hl'⟩ := L₂
  have na := (c.N (a, accObj d its n) (.head _)).2
  have nd := (c.N (d, accDict hh tk i t) (.tail _ (.head _))).2
  have nls := (c.N (ls, listObj (strValues ll).toArray nl) (.tail _ (.tail _ (.head _)))).2
  have c₂ := c.call (news' := [(a, accObj d #[] n₂), (d, accDict hh' tk' 0 t'), (ls, listObj (strValues ll').toArray nl')]) S₂ O₂ (fun x hx => by
      simp only [List.mem_cons, List.not_mem_nil, or_false] at hx
      rcases hx with rfl | rfl | rfl <;> assumption) (fun q hq => by
      simp only [List.mem_cons, List.not_mem_nil, or_false] at hq
      rcases hq with rfl | rfl | rfl
      · exact ⟨oa₂, na⟩
      · exact ⟨od₂, nd⟩
      · exact ⟨ols₂, nls⟩) (fun q hq => by
      simp only [List.mem_cons, List.not_mem_nil, or_false] at hq
      rcases hq with rfl | rfl | rfl <;> assumption)
  refine wpAny_execs_cons ?_
  refine wpAny_Return_some ?_
  refine MethodCall_ ?_
  refine c_name c₂ rfl ?_
  refine GM.join ?_
  refine callWith_method1 ?_
  refine spliced_more ?_
  refine fm_lines' c₂ rfl gf gfd fun s₃ c₃ e₃ => ?_
  refine spliced_none ?_
  refine SC.join (l := ll') ⟨_, c₃.get (.tail _ (.tail _ (.head _))), rfl, _, rfl⟩ hl' hjoin fun t'' k => ?_
  have c₄ := c₃.ext (s' := { s₃ with toks := k }) (fun _ _ e => e) rfl rfl
  exact h _ _ c₄.ok c₄.st
end
end Mine
end

section
open PySem PySem.W PySem.Calls PyProof.Rows
set_option maxRecDepth 100000
set_option maxHeartbeats 8000000
namespace Mine
section
variable {w : World} {A : Around} {E : Value → Shared → Prop} {s : Shared} {f fd : Addr} {es es' : List DictEntry} {k k' : Nat}
theorem fm_setAttr {name : Str} {v : Value} {Q : Unit → Shared → Prop} (X : (KK w).In s.heap) (hx : s.heap.get? f = some (instObj 94 fd)) (hd : s.heap.get? fd = some (dictOf es k)) (hl : (lookIn name (dictOf es k)).isSome = true)
    (e : Obj.putName name (PyData.keyHash w.params name) (.str name (s.toks + 1)) v (dictOf es k) = dictOf es' k') (hz : es'.length ≤ 1000)
    (h : ∀ s', Heap.SameBut fd s.heap s'.heap → s'.heap.get? fd = some (dictOf es' k') → s'.gens = s.gens → s'.os = s.os → Q () s') (ht : takerIn (KK w) 94 name = some none := by kernel_rfl) :
    wpAny (model PG w) A (setAttr (.ref f) name v) Q E s := by
  have I : InstAt s.heap f (instObj 94 fd) 94 (some (dictOf es k)) := ⟨hx, rfl, rfl, hd⟩
  refine set_plain (K := KK w) X I (by kernel_rfl) ?_
  refine osa_open (K := KK w) (s := { s with toks := s.toks + 1 }) X I (by kernel_rfl) ht fun b => ?_
  have hcd : (clsIn (KK w) 94).map (·.hasDict) = some true := by kernel_rfl
  obtain ⟨hp, g, dd, tt, os⟩ := s
  cases hc : clsIn (KK w) 94 with
  | none => rw [hc] at hcd; cases hcd
  | some cd =>
    rw [hc] at hcd
    have hd' : cd.hasDict = true := Option.some.inj hcd
    have D' := Heap.get?_update_self (h := hp) (Obj.putName name (PyData.keyHash w.params name) (.str name (tt + 1)) v) hd (by rw [e]; rfl)
    dsimp only
    refine wpAny_bind (wpAny_pure (wpAny_bind (wpAny_bind (wpAny_loadPart hx (wpAny_bind ((looks_clsIn X hc).at ?_))))))
    rw [hd']
    refine wpAny_pure (a := some fd) (wpAny_bind (wpAny_pure (wpAny_bind ?_)))
    unfold nsSet
    refine wpAny_bind (wpAny_bind (wpAny_askSetting (wpAny_pure (wpAny_bind (wpAny_mkText (wpAny_bind (wpAny_loadPart hd ?_)))))))
    have c : (!es.toArray.any (·.key.isStr name) && es.toArray.any (·.refKey)) = false := by
      unfold lookIn at hl
      dsimp only at hl
      rw [← Array.any_toList, ← Array.any_toList]
      split at hl
      · rename_i en he
        rw [List.any_eq_true.mpr ⟨en, List.mem_of_find?_eq_some he, List.find?_some he⟩]; rfl
      · split at hl
        · cases hl
        · rename_i z; rw [Bool.not_eq_true] at z; rw [z, Bool.and_false]
    dsimp only
    rw [aRefKeyMayBeTheName_at, c]
    refine wpAny_updatePart hd ?_
    rw [e] at D'
    refine wpAny_bind (wpAny_lookBehind D' (pastItsLine_dict (by rw [List.size_toArray, sizeLine_eq]; (exact om86 hz))) ?_)
    exact wpAny_pure (h _ (Heap.SameBut.update ..) D' rfl rfl)
end
end Mine
end

section
open PySem PySem.W PySem.Calls PyProof.Rows
set_option maxRecDepth 100000
set_option maxHeartbeats 8000000
namespace Mine
section
variable {w : World} {A : Around} {s : Shared} {f fd : Addr} {R : Result → Shared → Prop} {W i : Int} {ws sp : Str} {t1 t2 t3 t4 : Tok}
theorem finit_ok (O : Ok w s) (r : Rm A 8) (lf : (221 : Nat) ≤ f) (lfd : (221 : Nat) ≤ fd) (hne : fd ≠ f) (of : s.heap.get? f = some (instObj 94 fd)) (ofd : s.heap.get? fd = some emptyDict) (hw : ws.length ≤ 1000)
    (h : ∀ s' ls a d n, Ok w s' → St [fd] s s' → FmAt s'.heap f fd ls a W ws sp → AccAt s'.heap a d #[] n i → LinesAt s'.heap ls [] → (s.heap.objs.size : Nat) ≤ ls → (s.heap.objs.size : Nat) ≤ a → (s.heap.objs.size : Nat) ≤ d → R (.ok (.ret .none)) s') :
    codeAny (model PG w) A (.call (.ref 35) ⟨[.ref f, .int i t1, .int W t2, .str ws t3, .str sp t4], []⟩) R s := by
  refine c_enterC (binds := [("self", .ref f), ("headerlen", .int i t1), ("maxlen", .int W t2), ("continuation_ws", .str ws t3), ("splitchars", .str sp t4)]) [(fd, emptyDict)] O r.room (own1 lfd ofd) fun g L s₁ c => ?_
  have gf : g.get? f = some (instObj 94 fd) := c.B.all f _ (by simp [Ne.symm hne]) (not_tab lf) of
  refine wpAny_execs_cons (plainObj_wpAny_Assign_Attribute (c_name c rfl (c_name c rfl ?_)))
  refine fm_setAttr (es := []) (k := 0) c.X (c.base gf) (c.get (.head _)) rfl rfl (by simp) fun s₂ hs₂ e₂ hg₂ ho₂ => ?_
  have c₂ := c.upd (Upd.head (fun _ h => nomatch h)) lfd hs₂ e₂ hg₂ ho₂
  refine wpAny_execs_cons (plainObj_wpAny_Assign_Attribute (c_name c₂ rfl (c_name c₂ rfl ?_)))
  refine fm_setAttr c₂.X (c₂.base gf) (c₂.get (.head _)) rfl rfl (by simp) fun s₃ hs₃ e₃ hg₃ ho₃ => ?_
  have c₃ := c₂.upd (Upd.head (fun _ h => nomatch h)) lfd hs₃ e₃ hg₃ ho₃
  refine wpAny_execs_cons ?_
  refine plainObj_wpAny_Assign_Attribute ?_
  refine Call_ ?_
  refine c_built c₃ (v := .builtin "len") ?_ ?_ ?_ ?_
  · kernel_rfl
  · kernel_rfl
  · decide
  refine PyProof.Rows.callWith_builtin1 (spliced_more (c_name c₃ rfl (spliced_none ?_)))
  refine P.len_str (by lia) ?_
  have c₄ := c₃.ext (s' := { s₃ with toks := s₃.toks + 1 + 1 }) (fun _ _ e => e) rfl rfl
  refine c_name c₄ rfl ?_
  refine fm_setAttr (s := { s₃ with toks := s₃.toks + 1 + 1 }) c₄.X (c₄.base gf) (c₄.get (.head _)) rfl rfl (by simp) fun s₅ hs₅ e₅ hg₅ ho₅ => ?_
  have c₅ := c₄.upd (Upd.head (fun _ h => nomatch h)) lfd hs₅ e₅ hg₅ ho₅
  refine wpAny_execs_cons (plainObj_wpAny_Assign_Attribute (c_name c₅ rfl (c_name c₅ rfl ?_)))
  refine fm_setAttr c₅.X (c₅.base gf) (c₅.get (.head _)) rfl rfl (by simp) fun s₆ hs₆ e₆ hg₆ ho₆ => ?_
  have c₆ := c₅.upd (Upd.head (fun _ h => nomatch h)) lfd hs₆ e₆ hg₆ ho₆
  refine wpAny_execs_cons ?_
  refine plainObj_wpAny_Assign_Attribute ?_
  refine List_ (spliced_none (c_list c₆ fun s₇ ls c₇ hls => ?_))
  have big : (221 : Nat) ≤ s.heap.objs.size := (base_of (own := []) O.gd no_own).2
  have lls : (s.heap.objs.size : Nat) < ls := hls ▸ c₆.lt
  have lsfd : ls ≠ fd := fun e => absurd (Heap.lt_size ofd) (by rw [← e]; exact Nat.lt_asymm lls)
  refine c_name c₇ rfl ?_
  refine fm_setAttr c₇.X (c₇.base gf) (c₇.get (.tail _ (.head _))) rfl rfl (by simp) fun s₈ hs₈ e₈ hg₈ ho₈ => ?_
  have c₈ := c₇.upd (Upd.tail lsfd (Upd.head (fun _ h => nomatch h))) lfd hs₈ e₈ hg₈ ho₈
  refine wpAny_execs_cons ?_
  refine plainObj_wpAny_Assign_Attribute ?_
  refine Call_ ?_
  refine c_glob c₈ (v := .ref 178) ?_ ?_
  · kernel_rfl
  refine callWith_K (K := KK w) c₈.X (by kernel_rfl) ?_
  refine spliced_more (c_name c₈ rfl (spliced_none ?_))
  refine ⟨c₈.X, ?_⟩
  refine make_ok c₈.ok r.deep.le fun s₉ a d n O₉ S₉ Y₉ la ld => ?_
  have c₉ := c₈.call0 S₉ O₉
  have afd : a ≠ fd := fun e => absurd (Heap.lt_size ofd) (by rw [← e]; exact Nat.not_lt.mpr (Nat.le_of_lt (Nat.lt_of_lt_of_le c₈.lt la)))
  have dfd : d ≠ fd := fun e => absurd (Heap.lt_size ofd) (by rw [← e]; exact Nat.not_lt.mpr (Nat.le_of_lt (Nat.lt_of_lt_of_le c₈.lt ld)))
  refine c_name c₉ rfl ?_
  refine fm_setAttr c₉.X (c₉.base gf) (c₉.get (.tail _ (.head _))) rfl rfl (by simp) fun s₁₀ hs₁₀ e₁₀ hg₁₀ ho₁₀ => ?_
  have c₁₀ := c₉.upd (Upd.tail lsfd (Upd.head (fun _ h => nomatch h))) lfd hs₁₀ e₁₀ hg₁₀ ho₁₀
  refine wpAny_execs_nil ?_
  obtain ⟨la', ld', oa, hh, tk, t, od⟩ := Y₉
  refine h s₁₀ ls a d n c₁₀.ok c₁₀.st ⟨lf, lfd, c₁₀.base gf, ⟨_, _, _, _, _, _, _, _, _, _, _, _, _, _, _, _⟩, e₁₀⟩ ⟨la', ld', hs₁₀.extBut a _ afd oa, hh, tk, t, hs₁₀.extBut d _ dfd od⟩ ⟨Nat.le_of_lt (Nat.lt_of_le_of_lt big lls), [], 0, c₁₀.get (.head _), rfl⟩ (Nat.le_of_lt lls) (Nat.le_trans (Nat.le_of_lt c₈.lt) la) (Nat.le_trans (Nat.le_of_lt c₈.lt) ld)
end
end Mine
end

section
open PySem PySem.W PySem.Calls PyProof.Rows
set_option maxRecDepth 100000
set_option maxHeartbeats 8000000
namespace Mine
section
variable {w : World} {A : Around} {E : Value → Shared → Prop} {s : Shared} {Q : Value → Shared → Prop} {W i : Int} {ws sp : Str} {t1 t2 t3 t4 : Tok}
theorem rm_under {k : Nat} {C : Addr} {vals : List Value} (r : Rm A (k + 1)) : Rm (A.under (.builtin "type.__call__" ⟨.ref C :: vals, []⟩)) k :=
  ⟨r.hd, by have := r.dp; show A.depth + 1 + k < _; (exact om16 this), by have := r.un; first | (show A.units + 3 + 5 * k < _; omega) | (show A.units + 2 + 5 * k < _; omega) | (show A.units + 4 + 5 * k < _; omega) | (show A.units + 5 + 5 * k < _; omega) | (show A.units + 1 + 5 * k < _; (exact om18 this))⟩
theorem fmake_ok (O : Ok w s) (r : Rm A 9) (hw : ws.length ≤ 1000)
    (h : ∀ s' f fd ls a d n, Ok w s' → St [] s s' → FmAt s'.heap f fd ls a W ws sp → AccAt s'.heap a d #[] n i → LinesAt s'.heap ls [] → (s.heap.objs.size : Nat) ≤ f → (s.heap.objs.size : Nat) ≤ fd → (s.heap.objs.size : Nat) ≤ ls → (s.heap.objs.size : Nat) ≤ a → (s.heap.objs.size : Nat) ≤ d → Q (.ref f) s') :
    wpAny (model PG w) A (call (.ref 94) [.int i t1, .int W t2, .str ws t3, .str sp t4]) Q E s := by
  obtain ⟨hp, g, dd, tt, os⟩ := s
  have big : (221 : Nat) ≤ hp.objs.size := (base_of (own := []) O.gd no_own).2
  refine wpAny_call (make_core (C := 94) (makes_of (K := KK w) O.gd.X (by kernel_rfl)) (looks_findIn O.gd.X (r := some (.ref 35)) (by kernel_rfl)) (fun self => bind_fn O.gd.X self (by kernel_rfl)) (.inl rfl) ?_)
  have hx : ((hp.push emptyDict).push (instObj 94 hp.objs.size)).get? (hp.objs.size + 1) = some (instObj 94 hp.objs.size) := by heap_get
  have hd : ((hp.push emptyDict).push (instObj 94 hp.objs.size)).get? hp.objs.size = some emptyDict := by heap_get
  have k : ∀ b o, hp.get? b = some o → ((hp.push emptyDict).push (instObj 94 hp.objs.size)).get? b = some o := fun b o e => Heap.get?_push_of_some _ (Heap.get?_push_of_some _ e)
  have O₁ : Ok w ⟨(hp.push emptyDict).push (instObj 94 hp.objs.size), g, dd, tt, os⟩ := ⟨O.gd.keeps k, O.tabs.keeps fun b o _ e => k b o e, O.bare⟩
  have hz : hp.objs.size ≤ ((hp.push emptyDict).push (instObj 94 hp.objs.size)).objs.size := by
    rw [Heap.size_push, Heap.size_push]
    exact Nat.le_succ_of_le (Nat.le_succ _)
  refine finit_ok O₁ (rm_under r) (Nat.le_succ_of_le big) big (Nat.ne_of_lt (Nat.lt_succ_self _)) hx hd hw fun s' ls a d n O' S' F' Y' L' gl ga gd => ⟨rfl, ?_⟩
  refine h s' _ _ ls a d n O' ⟨fun b o _ ht e => S'.keep b o ?_ ht (k b o e), Nat.le_trans ?_ S'.grow, S'.os⟩ F' Y' L' (Nat.le_succ _) (Nat.le_refl _) (Nat.le_trans hz gl) (Nat.le_trans hz ga) (Nat.le_trans hz gd)
  · intro q
    rw [List.mem_singleton] at q
    exact absurd (Heap.lt_size e) (by rw [q]; exact Nat.lt_irrefl _)
  · show hp.objs.size ≤ ((hp.push emptyDict).push (instObj 94 hp.objs.size)).objs.size
    rw [Heap.size_push, Heap.size_push]
    exact Nat.le_succ_of_le (Nat.le_succ _)
end
end Mine
end

section
namespace Mine
noncomputable def isW (c : Nat) : Bool := c == 32 || c == 9
end Mine
end

section
open PySem
set_option maxRecDepth 100000
set_option maxHeartbeats 8000000
namespace Mine
noncomputable def pairs : List Nat → List (List Nat × List Nat)
  | [] => []
  | c :: l => if isW c then (match pairs l with
      | [] => [([c], [])]
      | (w, n) :: r => (c :: w, n) :: r)
    else match pairs l with
      | [] => [([], [c])]
      | ([], n) :: r => ([], c :: n) :: r
      | (w, n) :: r => ([], [c]) :: (w, n) :: r
theorem pairs_nil {l : List Nat} (h : pairs l = []) : l = [] := by
  cases l with
  | nil => rfl
  | cons c l =>
    unfold pairs at h
    split at h
    · split at h <;> cases h
    · split at h <;> cases h
noncomputable def cut (l : List Nat) (i j : Nat) : List Nat := (l.drop i).take (j - i)
end Mine
end

section
open PySem PySem.W PySem.Calls PyProof.Rows
set_option maxRecDepth 100000
set_option maxHeartbeats 8000000
namespace Mine
theorem str_append_len (x y : Str) : (x ++ y).length = x.length + y.length := by
  rw [ofL_append, ofL_len, List.length_append, Array.length_toList, Array.length_toList]; rfl
theorem Cx.named {w : World} {g : Heap} {wss : List Addr} {s₀ : Shared} {L : Addr} {m : Str → Option Value} {news : List (Addr × Obj)} (c : Cx w g wss s₀ L m news s) : ∃ m', m' = m ∧ Cx w g wss s₀ L m' news s := ⟨m, rfl, c⟩
section
variable {w : World} {A : Around} {g : Heap} {ws : List Addr} {s₀ s : Shared} {L I : Addr} {m : Str → Option Value} {news : List (Addr × Obj)}
theorem Cx.turnW {wr : List Addr} {h' : Heap} {tk : Nat} (c : Cx w g ws s₀ L m news s) (hw : ∀ b ∈ wr, (221 : Nat) ≤ b ∧ g.get? b = none ∧ L ≠ b) (hn : ∀ p ∈ news, p.1 ∉ wr) (k : ∀ b o, b ∉ wr → s.heap.get? b = some o → h'.get? b = some o) : Cx w g ws s₀ L m news { s with heap := h', toks := tk } :=
  ⟨c.B, c.big, c.hL, ⟨c.F.ns.at' fun o e => k L o (fun q => (hw L q).2.2 rfl) e, fun b o e => k b o (fun q => by rw [(hw b q).2.1] at e; cases e) (c.F.keep b o e), c.F.above⟩, fun p hp => ⟨k _ _ (hn p hp) (c.N p hp).1, (c.N p hp).2⟩, c.T.keeps fun b o hb e => k b o (fun q => not_tab (hw b q).1 hb) e, c.bare, c.os, c.hi⟩
end
noncomputable def qsOf (T : List Nat) : List (Str × Str) := (pairs T).map fun p => (ofL p.1, ofL p.2)
theorem pairs_length (l : List Nat) : (pairs l).length ≤ l.length := by
  induction l with
  | nil => exact Nat.le_refl _
  | cons c l ih =>
    unfold pairs
    split
    · split
      · simp
      · rename_i e; rw [e] at ih; simp only [List.length_cons] at ih ⊢; (exact Nat.le_succ_of_le (by assumption))
    · split
      · simp
      · rename_i e; rw [e] at ih; simp only [List.length_cons] at ih ⊢; (exact Nat.le_succ_of_le (by assumption))
      · rename_i e; rw [e] at ih; simp only [List.length_cons] at ih ⊢; (exact Nat.lt_succ_of_le (by assumption))
theorem sizes_drop_le (ps : List (Str × Str)) (k : Nat) : sizes (ps.drop k) ≤ sizes ps := by
  have := sizes_append (ps.take k) (ps.drop k)
  rw [List.take_append_drop] at this
  have := sizes_nonneg (ps.take k)
  (exact om123 (by assumption) this)
theorem chunk_bound {W : Int} {cs : List Nat} {lines lines' : List Str} {ps ps' : List (Str × Str)} {i i' : Int} {q : Str × Str} (h : chunk W cs (lines, ps, i) q = (lines', ps', i')) :
    lines'.length ≤ lines.length + 1 ∧ ps'.length ≤ ps.length + 1 ∧ (i' = i ∨ i' = 0) ∧ sizes ps' ≤ sizes ps + sizeOf' q + 1 ∧ ((∀ x ∈ ps ++ [q], x.2 ≠ ofL []) → ∀ x ∈ ps', x.2 ≠ ofL []) := by
  have hs : sizes (ps ++ [q]) = sizes ps + sizeOf' q := by rw [sizes_append]; simp [sizes]
  have h0 := sizes_nonneg ps
  unfold chunk at h
  dsimp only at h
  split at h
  · cases h
    exact ⟨by (exact om124), by simp, .inl rfl, by (exact om125 hs), fun z => z⟩
  · split at h
    · cases h
      have := sizes_drop_le (ps ++ [q]) ‹Nat›
      refine ⟨by simp, by simp, .inr rfl, by (exact om126 hs this), fun z x hx => z x (List.mem_of_mem_drop hx)⟩
    · split at h
      · cases h
        refine ⟨by simp, by simp, .inr rfl, ?_, fun z x hx => ?_⟩
        · have e : sizes [((if q.1 = ofL [] then ofL [32] else q.1), q.2)] ≤ sizeOf' q + 1 := by
            simp only [sizes, List.map_cons, List.map_nil, List.sum_cons, List.sum_nil]
            unfold sizeOf'
            dsimp only
            split
            · rw [ofL_len]; simp; (exact om127)
            · (exact om128)
          (exact om129 h0 e)
        · rw [List.mem_singleton] at hx; subst hx; exact z q (by simp)
      · cases h
        exact ⟨by (exact om124), by simp, .inl rfl, by (exact om125 hs), fun z => z⟩
end Mine
end

section
open PySem PySem.W PySem.Calls PyProof.Rows
open PySem.Builtin PySem.Builtin.ObjectAttr
set_option maxRecDepth 100000
set_option maxHeartbeats 8000000
namespace Mine
namespace S
theorem fn_ga : Slot "function" "__getattribute__" "object.__getattribute__" :=
  .of (owner := "object") (n := "__getattribute__") (by rw [typeLookup_type, builtinLookup_eq_fast]; kernel_rfl) (by decide +kernel) (by decide +kernel) (by decide +kernel)
    (by first | exact .inl (by decide +kernel) | exact .inr (by decide +kernel)) (by rw [isSubtype_type]; kernel_rfl)
theorem fn_sa : Slot "function" "__setattr__" "object.__setattr__" :=
  .of (owner := "object") (n := "__setattr__") (by rw [typeLookup_type, builtinLookup_eq_fast]; kernel_rfl) (by decide +kernel) (by decide +kernel) (by decide +kernel)
    (by first | exact .inl (by decide +kernel) | exact .inr (by decide +kernel)) (by rw [isSubtype_type]; kernel_rfl)
theorem fn_hook : typeLookup (.type "function") "__getattr__" = pure none := by rw [typeLookup_type, builtinLookup_eq_fast]; kernel_rfl
theorem fn_span : typeLookup (.type "function") "span" = pure none := by rw [typeLookup_type, builtinLookup_eq_fast]; kernel_rfl
theorem fn_search : typeLookup (.type "function") "search" = pure none := by rw [typeLookup_type, builtinLookup_eq_fast]; kernel_rfl
theorem fn_mro : mroOf (.type "function") = pure [.type "function", .type "object"] := by rw [mroOf_type]; kernel_rfl
theorem fn_passes (self : Value) : refuseLoop self "__setattr__" [.type "function", .type "object"] = pure () := by kernel_rfl
theorem fn_bool : typeLookup (.type "function") "__bool__" = pure none := by rw [typeLookup_type, builtinLookup_eq_fast]; kernel_rfl
theorem fn_len : typeLookup (.type "function") "__len__" = pure none := by rw [typeLookup_type, builtinLookup_eq_fast]; kernel_rfl
end S
noncomputable abbrev fnObj (fd : FuncData) (d : Option Addr) : Obj := { cls := .type "function", dict := d, data := .func fd }
section
variable {prog : Program} {w : World} {A : Around} {E : Value → Shared → Prop} {s : Shared} {x D : Addr} {fd : FuncData}
theorem fn_true {d : Option Addr} {Q : Bool → Shared → Prop} (hx : s.heap.get? x = some (fnObj fd d)) (h : Q true s) : wpAny (model prog w) A (truthy (.ref x)) Q E s := by
  have hT : s.TypeIs (.ref x) "function" := ⟨_, hx, rfl⟩
  unfold truthy
  refine wpAny_bind (m := callSpecial? _ _) ?_
  simp only [callSpecial?]
  refine wpAny_bind (wpAny_specialOf hT S.fn_bool (wpAny_pure ?_))
  dsimp only
  refine wpAny_bind (wpAny_specialOf hT S.fn_len ?_)
  exact wpAny_pure h
theorem fn_getAttr {name : Str} {ex : Bool} {v : Value} {tk : Tok} {hh : Int} {Q : Value → Shared → Prop} (hx : s.heap.get? x = some (fnObj fd (some D))) (hd : s.heap.get? D = some (dictOf [⟨hh, .str name tk, v⟩] 1)) (hn : typeLookup (.type "function") name = pure none)
    (hv : handedIn v = true) (hl : lookIn name (dictOf [⟨hh, .str name tk, v⟩] 1) = some (some v)) (h : Q v { s with toks := s.toks + 1 }) : wpAny (model prog w) A (getAttr (.ref x) name ex) Q E s := by
  obtain ⟨hp, g, d, t, os⟩ := s
  have hT : ∀ t', (⟨hp, g, d, t', os⟩ : Shared).TypeIs (.ref x) "function" := fun _ => ⟨_, hx, rfl⟩
  unfold getAttr getAttrBy
  refine wpAny_bind (wpAny_mkText (wpAny_holding (wpAny_bind (wpAny_typeOf (hT _) (wpAny_bind (wpAny_of_eq S.fn_ga.lookup ?_))))))
  show wpAny _ _ (getAttrByItsOwn _ _ _ _ _ _) _ _ _
  unfold getAttrByItsOwn hookBefore
  refine wpAny_bind (wpAny_pure ?_)
  refine wpAny_bind (wpAny_attempt (wpAny_holding ?_))
  unfold callGetattribute
  rw [if_neg (by simp [onTheHeap])]
  unfold boundAndCalled
  refine wpAny_bind (wpAny_of_eq (S.fn_ga.bind _) ?_)
  refine wpAny_call_entry S.fn_ga (hT _) F.entry_object_getattribute ?_ (F.args_object_getattribute_2 _ _)
  unfold Builtin.«object.__getattribute__»
  refine wpAny_bind (m := slotArgs _ _ _) (wpAny_pure ?_)
  refine wpAny_bind (m := attrName _) (wpAny_pure ?_)
  refine wpAny_bind (wpAny_typeOf (hT _) ?_)
  unfold ObjectAttr.find
  refine wpAny_bind (wpAny_bind (wpAny_of_eq hn (wpAny_bind (wpAny_pure (wpAny_bind (wpAny_pure ?_))))))
  unfold ownThenClass inOwnDict ObjectAttr.ownDict
  refine wpAny_bind (wpAny_bind (wpAny_bind (wpAny_loadPart hx ?_)))
  unfold instanceDict
  refine wpAny_bind (wpAny_loadPart hx (wpAny_pure ?_))
  unfold inDict nsGet
  refine wpAny_bind (wpAny_loadPart hd ?_)
  rw [nsLook_of hl]
  refine wpAny_pure (wpAny_bind (wpAny_rule (wpAny_pure ?_)))
  refine wpAny_pure ⟨_, rfl, ?_⟩
  show wpAny _ _ (handedOut v) _ _ _
  rw [handedOut_of hv]
  exact wpAny_pure h
theorem fn_method {name : Str} {pl : Sem Bool} {v : Value} {tk : Tok} {hh : Int} {Q : Value × List Value → Shared → Prop} (hx : s.heap.get? x = some (fnObj fd (some D))) (hd : s.heap.get? D = some (dictOf [⟨hh, .str name tk, v⟩] 1)) (hn : typeLookup (.type "function") name = pure none)
    (hv : handedIn v = true) (hl : lookIn name (dictOf [⟨hh, .str name tk, v⟩] 1) = some (some v)) (h : Q (v, []) { s with toks := s.toks + 1 }) : wpAny (model prog w) A (getMethod (.ref x) name pl) Q E s := by
  have hT : s.TypeIs (.ref x) "function" := ⟨_, hx, rfl⟩
  unfold getMethod
  refine wpAny_bind (wpAny_specialOf hT S.fn_ga.lookup ?_)
  show wpAny _ A (if (Manifest.canonical "object.__getattribute__" != "object.__getattribute__") = true then _ else _) Q E s
  rw [F.canon_object_ga, if_neg Bool.false_ne_true]
  refine wpAny_bind (wpAny_specialOf hT S.fn_hook ?_)
  refine wpAny_bind (wpAny_specialOf hT hn ?_)
  exact wpAny_bind (fn_getAttr hx hd hn hv hl (wpAny_pure h))
theorem fn_setAttr {name : Str} {v : Value} {Q : Unit → Shared → Prop} (hx : s.heap.get? x = some (fnObj fd none)) (hn : typeLookup (.type "function") name = pure none)
    (e : ∀ hh key, Obj.putName name hh key v emptyDict = dictOf [⟨hh, key, v⟩] 1)
    (h : ∀ s' hh tk, (∀ b o, b ≠ x → s.heap.get? b = some o → s'.heap.get? b = some o) → s'.heap.get? x = some (fnObj fd (some s.heap.objs.size)) → s'.heap.get? s.heap.objs.size = some (dictOf [⟨hh, .str name tk, v⟩] 1) → s'.heap.objs.size = s.heap.objs.size + 1 → s'.gens = s.gens → s'.os = s.os → Q () s') :
    wpAny (model prog w) A (setAttr (.ref x) name v) Q E s := by
  obtain ⟨hp, g, d, t, os⟩ := s
  have hT : ∀ t', (⟨hp, g, d, t', os⟩ : Shared).TypeIs (.ref x) "function" := fun _ => ⟨_, hx, rfl⟩
  unfold setAttr
  refine wpAny_bind (wpAny_mkText (wpAny_bind (wpAny_callSpecial?_slot (name := Str.ofString "__setattr__") (hT _) S.fn_sa (wpAny_call_entry S.fn_sa (hT _) F.store_object.entry ?_ (F.store_object.args (.ref x) (.str name t) v)))))
  rw [osa_eq, refuse_eq]
  refine wpAny_bind (wpAny_bind (wpAny_typeOf (hT _) (wpAny_bind (wpAny_of_eq S.fn_mro ?_))))
  rw [S.fn_passes]
  refine wpAny_pure (wpAny_bind (wpAny_typeOf (hT _) (wpAny_bind (wpAny_of_eq hn (wpAny_bind (wpAny_pure ?_))))))
  show wpAny _ _ (storeInOwnDict _ _ _ _ _ _) _ _ _
  unfold storeInOwnDict
  refine wpAny_bind (m := ownStreamTells _ _) (wpAny_pure ?_)
  rw [if_neg (by decide)]
  refine wpAny_bind (m := ownDictForStores _) ?_
  unfold ownDictForStores instanceDict
  refine wpAny_bind (wpAny_loadPart hx ?_)
  dsimp only
  have hz : (!true || !typeHasDict (.type "function")) = false := by decide +kernel
  rw [hz, if_neg (by decide)]
  refine wpAny_bind (wpAny_alloc ?_)
  have hx₁ : (hp.push emptyDict).get? x = some (fnObj fd none) := Heap.get?_push_of_some _ hx
  refine wpAny_bind (wpAny_update hx₁ ?_)
  have hxD : x ≠ hp.objs.size := Nat.ne_of_lt (Heap.lt_size hx)
  have hx₂ : ((hp.push emptyDict).update x (fun o => { o with dict := some hp.objs.size })).get? x = some (fnObj fd (some hp.objs.size)) := by
    rw [Heap.get?_update_self _ hx₁ rfl]
  have hs₂ : Heap.SameBut x (hp.push emptyDict) ((hp.push emptyDict).update x (fun o => { o with dict := some hp.objs.size })) := Heap.SameBut.update ..
  have hd₂ : ((hp.push emptyDict).update x (fun o => { o with dict := some hp.objs.size })).get? hp.objs.size = some emptyDict := hs₂.extBut _ _ hxD.symm (Heap.get?_push_size _ rfl)
  have hz₂ : ((hp.push emptyDict).update x (fun o => { o with dict := some hp.objs.size })).objs.size = hp.objs.size + 1 := by rw [hs₂.1, Heap.size_push]
  show wpAny _ _ (dictMade (.type "function") x hp.objs.size) _ _ _
  unfold dictMade
  dsimp only
  rw [if_neg (by decide +kernel)]
  refine wpAny_bind (wpAny_pure (wpAny_pure ?_))
  show wpAny _ _ (storeInDict hp.objs.size (.str name t) name v) _ _ _
  unfold storeInDict newKeyGuard
  refine wpAny_bind (wpAny_pure ?_)
  generalize hH : ((hp.push emptyDict).update x (fun o => { o with dict := some hp.objs.size })) = H at hx₂ hs₂ hd₂ hz₂ ⊢
  unfold nsSet
  refine wpAny_bind (wpAny_bind (wpAny_bind (wpAny_askSetting (wpAny_pure (wpAny_bind (wpAny_mkText (wpAny_bind (wpAny_loadPart hd₂ ?_))))))))
  dsimp only
  rw [aRefKeyMayBeTheName_at]
  rw [if_neg (by simp)]
  refine wpAny_updatePart hd₂ ?_
  have D' := Heap.get?_update_self (h := H) (Obj.putName name (if name.cps.isEmpty then 0 else reduceHash (w.params.strHash name.cps)) (.str name (t + 1)) v) hd₂ (by rw [e]; rfl)
  rw [e] at D'
  have hs₃ : Heap.SameBut hp.objs.size H (H.update hp.objs.size (Obj.putName name (if name.cps.isEmpty then 0 else reduceHash (w.params.strHash name.cps)) (.str name (t + 1)) v)) := Heap.SameBut.update ..
  refine wpAny_bind (wpAny_lookBehind D' (pastItsLine_dict (by rw [List.size_toArray, sizeLine_eq]; simp)) ?_)
  refine wpAny_pure ⟨_, rfl, wpAny_pure ?_⟩
  exact h _ _ _ (fun b o hb e => hs₃.extBut b o (Nat.ne_of_lt (Heap.lt_size e)) (hs₂.extBut b o hb (Heap.get?_push_of_some _ e))) (hs₃.extBut _ _ hxD hx₂) D' (hs₃.1.trans hz₂) rfl rfl
end
end Mine
end

section
open PySem PySem.W PySem.Calls PyProof.Rows
set_option maxRecDepth 100000
set_option maxHeartbeats 8000000
namespace Mine
noncomputable def CodesIn (qf : Nat → Str) (ps : Array Value) (h : Heap) : Prop :=
  TriplesOk ps.toList ∧ ∀ (pos : Pos) cv, codeAmong pos ps.toList = some cv → ∃ c o vs t, cv = .ref c ∧ (221 : Nat) ≤ c ∧ h.get? c = some o ∧ o.data = .fields vs ∧ vs[1]? = some (.str (qf pos.line) t)
noncomputable def CodeD (o : Obj) (vs : Array Value) : Prop := o.data = .fields vs ∧ ∃ (q : Str) (t : Tok), vs[1]? = some (.str q t)
theorem CodesIn.keep {qf : Nat → Str} {ps : Array Value} {h h' : Heap} (C : CodesIn qf ps h) (k : ∀ b o vs, (221 : Nat) ≤ b → CodeD o vs → h.get? b = some o → h'.get? b = some o) : CodesIn qf ps h' := by
  refine ⟨C.1, fun pos cv e => ?_⟩
  obtain ⟨c, o, vs, t, e1, e2, e3, e4, e5⟩ := C.2 pos cv e
  exact ⟨c, o, vs, t, e1, e2, k c o vs e2 ⟨e4, _, _, e5⟩ e3, e4, e5⟩
noncomputable def CodeHi (h : Heap) (cv : Value) (q : Str) : Prop := ∃ c o vs t, cv = .ref c ∧ (221 : Nat) ≤ c ∧ h.get? c = some o ∧ o.data = .fields vs ∧ vs[1]? = some (.str q t)
theorem CodeHi.keep {h h' : Heap} {cv : Value} {q : Str} (C : CodeHi h cv q) (k : ∀ b o vs, (221 : Nat) ≤ b → CodeD o vs → h.get? b = some o → h'.get? b = some o) : CodeHi h' cv q := by
  obtain ⟨c, o, vs, t, e1, e2, e3, e4, e5⟩ := C
  exact ⟨c, o, vs, t, e1, e2, k c o vs e2 ⟨e4, _, _, e5⟩ e3, e4, e5⟩
theorem CodeHi.rec {h : Heap} {cv : Value} {q : Str} (C : CodeHi h cv q) : h.CodeRec cv q := by
  obtain ⟨c, o, vs, t, e1, e2, e3, e4, e5⟩ := C
  exact ⟨c, o, vs, t, e1, e3, e4, e5⟩
theorem CodesIn.rec {qf : Nat → Str} {ps : Array Value} {h : Heap} (C : CodesIn qf ps h) {pos : Pos} {cv : Value} (e : codeAmong pos ps.toList = some cv) : CodeHi h cv (qf pos.line) := C.2 pos cv e
theorem among_snoc {pos : Pos} {l c : Int} {v cv : Value} : ∀ (xs : List Value), TriplesOk xs → codeAmong pos (xs ++ [rawInt l, rawInt c, v]) = some cv → codeAmong pos xs = some cv ∨ (l = pos.line ∧ cv = v)
  | [], _, h => by
    unfold codeAmong rawInt at h
    dsimp only [List.nil_append] at h
    split at h
    · rename_i q
      rw [Bool.and_eq_true] at q
      cases h
      exact .inr ⟨eq_of_beq q.1, rfl⟩
    · cases h
  | .int a t :: .int b u :: x :: rest, ht, h => by
    simp only [List.cons_append, codeAmong] at h ⊢
    split at h
    · rename_i q; rw [if_pos q]; exact .inl h
    · rename_i q; rw [if_neg q]; exact among_snoc rest ht h
theorem CodesIn.add {qf : Nat → Str} {ps : Array Value} {h : Heap} (C : CodesIn qf ps h) {pos : Pos} {c : Addr} (hc : (221 : Nat) ≤ c) (hr : h.CodeRec (.ref c) (qf pos.line)) : CodesIn qf (ps ++ #[rawInt pos.line, rawInt pos.col, .ref c]) h := by
  have e : (ps ++ #[rawInt pos.line, rawInt pos.col, .ref c]).toList = ps.toList ++ [rawInt pos.line, rawInt pos.col, .ref c] := by simp
  refine ⟨by rw [e]; exact TriplesOk_snoc _ _ _ _ C.1, fun pos' cv h' => ?_⟩
  rw [e] at h'
  rcases among_snoc _ C.1 h' with h1 | ⟨h1, rfl⟩
  · exact C.2 pos' cv h1
  · obtain ⟨c', o, vs, t, e1, e2, e3, e4⟩ := hr
    cases e1
    have : pos'.line = pos.line := by have : ((pos.line : Nat) : Int) = pos'.line := h1; (exact om201 h1)
    exact ⟨c, o, vs, t, rfl, hc, e2, e3, by rw [this]; exact e4⟩
section
variable {w : World} {A : Around} {E : Value → Shared → Prop} {g : Heap} {ws : List Addr} {s₀ s : Shared} {L : Addr} {m : Str → Option Value} {news rest : List (Addr × Obj)} {Q : Value → Shared → Prop}
theorem ba_at (w : World) {h : Heap} {mg : Str → Option Value} {P : Addr} (X : (KK w).In h) (G : h.Ns mainGlobals mg) (hP : (4 : Addr) ≠ P) : h.BuiltinsAt mg P := by
  have ho : (KK w).lookup 4 = some ⟨.type "module", some builtinsNs, .plain, #[]⟩ := by kernel_rfl
  refine ⟨4, _, mg_of X G (n := "__builtins__") (v := .ref 4) ?_, by decide, by decide, hP, X _ _ ho, rfl, rfl, rfl⟩
  · kernel_rfl
theorem c_mk {cn : Str} {cs : Scope} {fa : Addr} {cl : List (Str × Addr)} {cc P : Addr} {dV : Value} {ps : Array Value} {qf : Nat → Str} {name qual : Str} {params : Arguments} {body : FuncBody} {scope : Scope} {pos : Pos} {fl : Nat} {clos : List (Str × Addr)}
    (c : Cx w g ws s₀ L m ((P, tabObj ps) :: rest) s) (hr : ∀ p ∈ rest, p.1 ≠ P) (hP' : P = 198 ∨ P = 205) (hd : codeHdIn (KK w) cc P = true) (C : CodesIn qf ps s.heap) (hq : qf pos.line = qual)
    (hcl : closureFor scope (envX cn cs L fa (.ref cc) cl) = pure clos) (hP4 : (4 : Addr) ≠ P)
    (h : ∀ s' f cv ctv doc pm ps', Cx w g ws s₀ L m ((f, fnObj (kdv_fn name qual params body scope clos dV doc pm cv ctv) none) :: (P, tabObj ps') :: rest) s' → CodesIn qf ps' s'.heap → CodeHi s'.heap cv qual → s.heap.objs.size ≤ f →
      (∀ b o, b ≠ P → s.heap.get? b = some o → s'.heap.get? b = some o) → Q (.ref f) s') :
    wpAny (model PG w) A (makeTail name qual params body scope (envX cn cs L fa (.ref cc) cl) dV .none none pos fl) Q E s := by
  obtain ⟨_, _, mg, mb, T⟩ := c.gd.T
  have hP : Hi P := .inr hP'
  have hPs := c.get (.head _)
  have hG : mainGlobals ≠ P := fun q => by
    obtain ⟨o, es, ep, e, hd, _⟩ := T.g
    rw [q, hPs] at e; cases e; cases hd
  have hB := ba_at w c.X T.g hP4
  have hC := codeHd_of_K c.X hd
  cases hf : codeAmong pos ps.toList with
  | some cv =>
    refine kdv_makeTailHit hcl rfl T.g rfl hC hPs C.1 hf hB fun ctv doc h' tk k hsz => ?_
    have c' := (c.ext (s' := { s with heap := h'.push (fnObj (kdv_fn name qual params body scope clos dV doc ((mg "__name__").getD .none) cv ctv) none), toks := tk }) (fun b o e => Heap.get?_push_of_some _ (k b o e)) rfl rfl).new (Heap.get?_push_size h' (o := fnObj (kdv_fn name qual params body scope clos dV doc ((mg "__name__").getD .none) cv ctv) none) rfl) (Nat.lt_of_lt_of_le c.lt hsz)
    refine h _ _ cv ctv doc _ ps c' (C.keep fun b o vs _ _ e => Heap.get?_push_of_some _ (k b o e)) ?_ hsz fun b o _ e => Heap.get?_push_of_some _ (k b o e)
    rw [← hq]
    exact ((C.keep fun b o vs _ _ e => Heap.get?_push_of_some _ (k b o e)).rec hf)
  | none =>
    refine kdv_makeTail hcl rfl T.g rfl hC hPs C.1 hf hG hB fun c' ctv doc h' tk hx hge hlt hrec htb => ?_
    have big : (221 : Nat) ≤ s.heap.objs.size := Nat.le_trans c.big (c.hL ▸ Nat.le_of_lt c.lt)
    have hle : s.heap.objs.size ≤ h'.objs.size := Nat.le_trans hge (Nat.le_of_lt hlt)
    have hgP : g.get? P = none := (c.N _ (.head _)).2.2
    have hLP : P ≠ L := (c.N _ (.head _)).2.1
    have c₁ : Cx w g ws s₀ L m ((P, tabObj (ps ++ #[rawInt pos.line, rawInt pos.col, .ref c'])) :: rest) { s with heap := h', toks := tk } :=
      ⟨c.B, c.big, c.hL, ⟨c.F.ns.at' fun o e => hx L o hLP.symm e, fun b o e => hx b o (fun q => by rw [q, hgP] at e; cases e) (c.F.keep b o e), c.F.above⟩, fun p hp => by
        cases hp with
        | head => exact ⟨htb, hLP, hgP⟩
        | tail _ hp => exact ⟨hx _ _ (hr p hp) (c.N p (.tail _ hp)).1, (c.N p (.tail _ hp)).2⟩, c.T.keeps fun b o hb e => hx b o (fun q => hP.not_tab (q ▸ hb)) e, c.bare, c.os, fun p hp => by
        cases hp with
        | head => exact hP
        | tail _ hp => exact c.hi p (.tail _ hp)⟩
    have c₂ := (c₁.ext (s' := { s with heap := h'.push (fnObj (kdv_fn name qual params body scope clos dV doc ((mg "__name__").getD .none) (.ref c') ctv) none), toks := tk }) (fun b o e => Heap.get?_push_of_some _ e) rfl rfl).new (Heap.get?_push_size h' (o := fnObj (kdv_fn name qual params body scope clos dV doc ((mg "__name__").getD .none) (.ref c') ctv) none) rfl) (Nat.lt_of_lt_of_le c.lt hle)
    have hrec' : h'.CodeRec (.ref c') (qf pos.line) := hq ▸ hrec
    have C₁ : CodesIn qf ps h' := C.keep fun b o vs hb hd e => hx b o (fun q => by
      rw [q, hPs] at e
      rw [q] at hb
      rcases hP' with rfl | rfl
      · exact absurd hb (by decide)
      · exact absurd hb (by decide)) e
    refine h _ _ (.ref c') ctv doc _ _ c₂ ((C₁.add (Nat.le_trans big hge) hrec').keep fun b o vs _ _ e => Heap.get?_push_of_some _ e) (CodeHi.keep (h := h') (by obtain ⟨cc', o, vs, t, e1, e2, e3, e4⟩ := hrec; cases e1; exact ⟨_, o, vs, t, rfl, Nat.le_trans big hge, e2, e3, e4⟩) fun b o vs _ _ e => Heap.get?_push_of_some _ e) hle fun b o hb e => Heap.get?_push_of_some _ (hx b o hb e)
end
end Mine
end

section
open PySem PySem.W PySem.Calls PyProof.Rows
set_option maxRecDepth 100000
set_option maxHeartbeats 8000000
namespace Mine
theorem CellsAre.above {cm : Str → Option Value} {n : Nat} : ∀ {cs : List (Str × Addr)} {cells : List (Addr × Obj)}, CellsAre cm cs cells → (∀ q ∈ cs, n ≤ q.2) → ∀ p ∈ cells, n ≤ p.1
  | _, _, .nil, _, p, hp => nomatch hp
  | _, _, .cons _ r, h, p, hp => by
    cases hp with
    | head => exact h _ List.mem_cons_self
    | tail _ hp => exact CellsAre.above r (fun q hq => h q (List.mem_cons_of_mem _ hq)) p hp
theorem cells_ge (m : Nat) : ∀ (ns : List (Str × NameKind)) (n : Nat) (acc : List (Str × Addr)), m ≤ n → (∀ q ∈ acc, m ≤ q.2) → ∀ q ∈ cellsFrom n ns acc, m ≤ q.2
  | [], _, _, _, h => h
  | (x, k) :: r, n, acc, hn, h => by
    unfold cellsFrom
    split
    · exact cells_ge m r (n + 1) _ (Nat.le_succ_of_le hn) (fun q hq => by cases hq with | head => exact hn | tail _ hq => exact h q hq)
    · exact cells_ge m r n acc hn h
theorem cells_hab {ns : List (Str × NameKind)} (n : Nat) : ∀ q ∈ cellsFrom n ns [], n ≤ q.2 := cells_ge n ns n [] (Nat.le_refl n) (fun _ h => nomatch h)
section
variable {w : World} {A : Around} {E : Value → Shared → Prop} {s : Shared} {Q : Value → Shared → Prop}
theorem c_enterCells {name qual : Str} {params : Arguments} {body : List Stmt} {scope : Scope} {dV kV doc pm cdv ct oc : Value} {an od : Option Addr} {osl : Array (Option Value)} {f : Addr} {args : List Value} {binds : List (Str × Value)} (clf : Addr → List (Str × Addr))
    (own : List (Addr × Obj)) (O : Ok w s) (hroom : A.depth < recursionLimit)
    (hown : ∀ p ∈ own, Hi p.1 ∧ s.heap.get? p.1 = some p.2)
    (h : ∀ g L s₁ cells, Cx w g (own.map (·.1)) s L (bindL (envOfC qual scope L f cdv).kindOf binds fun _ => none) (cells ++ own) s₁ → CellsAre (bindC (envOfC qual scope L f cdv).kindOf binds fun _ => none) (clf L) cells →
      (∀ b o, s.heap.get? b = some o → s₁.heap.get? b = some o) →
      wpAny (model PG w) (A.deeper (envX qual scope L f cdv (clf L))) (execs body (envX qual scope L f cdv (clf L)))
        (fun fl s' => Q (match fl with | .ret v => v | _ => .none) s') (fun _ _ => False) s₁)
    (ho : (hdz.heap_242 w.params).lookup f = some ⟨oc, od, .func (fnX name qual params body scope [] dV kV doc pm an cdv ct), osl⟩ := by k_is) (hf : (!(tabA.contains f)) = true := by rfl) (hcd : codeIn (KK w) cdv qual = true := by kernel_rfl)
    (hbind : BindsTo s (fnX name qual params body scope [] dV kV doc pm an cdv ct) ⟨args, []⟩ binds := by exact BindsTo.of_eq (by kernel_rfl))
    (hclf : ∀ L, clf L = cellsFrom (L + 1) scope.names [])
    (hkind : ∀ n, ∀ x ∈ binds, scope.names.lookup x.1 = some .local ∨ (scope.names.lookup x.1 = some .cell ∧ ((cellsFrom n scope.names []).lookup x.1).isSome = true))
    (hnd : ((cellsFrom 0 scope.names []).map (·.1)).Nodup := by decide) (hab : ∀ n, ∀ q ∈ cellsFrom n scope.names [], n ≤ q.2)
    (hco : scope.isCoroutine = false := by rfl) (hgen : scope.isGenerator = false := by rfl) (hk : scope.kind = .function := by rfl) :
    wpAny (model PG w) A (PySem.call (.ref f) args) Q E s := by
  obtain ⟨G, tp, bare⟩ := O
  obtain rfl : clf = fun L => cellsFrom (L + 1) scope.names [] := funext hclf
  refine wpAny_call (codeAny_call_function (fd := fnX name qual params body scope [] dV kV doc pm an cdv ct) (body := body) hroom (G.look ho hf) rfl hco hgen rfl (codeRec_of G.X hcd) (hbind _ _ _ _ ?_))
  refine wpAny_newFunctionEnv_cells hk (hkind _) fun env' he s' x => ?_
  subst he
  refine ⟨G.lim.keeps x.toInCall.keep, codeAny_func ?_⟩
  obtain ⟨h₁, tk, rfl, _⟩ := x.done
  have hk₁ := x.toInCall.keep
  obtain ⟨cells, NC, Y⟩ := Cl.news (h₀ := s.heap) (Nat.le_refl _) fun n c hm => ⟨x.cell n c (lookup_of_mem_nodup (cellsFrom_names scope.names 0 (s.heap.objs.size + 1) [] [] rfl ▸ hnd) hm), x.above n c hm⟩
  obtain ⟨B, big⟩ := base_ofH G hown
  have ab := CellsAre.above Y (hab (s.heap.objs.size + 1))
  refine wpAny_mono (h _ _ _ cells ⟨B, big, rfl, ⟨x.toInCall.ns, fun b o e => hk₁ b o (B.of_ b o e), Nat.le_of_eq (hideAll_size _ _)⟩, fun p hp => ?_, tp.keeps fun b o _ e => hk₁ b o e, bare, rfl, fun p hp => ?_⟩ Y hk₁) (fun fl s' hq => hq) fun _ _ e => e.elim
  · rcases List.mem_append.mp hp with hp | hp
    · refine ⟨(NC p hp).1, (NC p hp).2.1, ?_⟩
      cases q : (hideAll s.heap (own.map (·.1) ++ tabG)).get? p.1 with
      | none => rfl
      | some o => have := B.of_ _ _ q; rw [(NC p hp).2.2] at this; cases this
    · exact ⟨hk₁ _ _ (hown p hp).2, Nat.ne_of_lt (Heap.lt_size (hown p hp).2), B.own _ (List.mem_map_of_mem hp)⟩
  · rcases List.mem_append.mp hp with hp | hp
    · exact .inl (Nat.le_trans big (Nat.le_of_succ_le (ab p hp)))
    · exact (hown p hp).1
theorem c_enterF {name qual : Str} {params : Arguments} {body : List Stmt} {scope : Scope} {cl : List (Str × Addr)} {dV doc pm cdv ct : Value} {d : Option Addr} {f : Addr} {args : List Value} {binds : List (Str × Value)}
    (own : List (Addr × Obj)) (O : Ok w s) (hroom : A.depth < recursionLimit)
    (hown : ∀ p ∈ own, Hi p.1 ∧ s.heap.get? p.1 = some p.2)
    (ho : s.heap.get? f = some (fnObj (kdv_fn name qual params (.stmts body) scope cl dV doc pm cdv ct) d)) (hcd : s.heap.CodeRec cdv qual)
    (hbind : BindsTo s (kdv_fn name qual params (.stmts body) scope cl dV doc pm cdv ct) ⟨args, []⟩ binds)
    (h : ∀ g L s₁, Cx w g (own.map (·.1)) s L (fun y => binds.reverse.lookup y) own s₁ →
      wpAny (model PG w) (A.deeper (envX qual scope L f cdv cl)) (execs body (envX qual scope L f cdv cl))
        (fun fl s' => Q (match fl with | .ret v => v | _ => .none) s') (fun _ _ => False) s₁)
    (hloc : ∀ y ∈ binds, scope.names.lookup y.1 = some .local := by exact locs (by kernel_rfl))
    (hcell : ∀ x ∈ scope.names, x.2 ≠ .cell := by decide) (hco : scope.isCoroutine = false := by rfl) (hgen : scope.isGenerator = false := by rfl) (hk : scope.kind = .function := by rfl) :
    wpAny (model PG w) A (PySem.call (.ref f) args) Q E s := by
  obtain ⟨G, tp, bare⟩ := O
  refine wpAny_call (codeAny_call_def (fd := kdv_fn name qual params (.stmts body) scope cl dV doc pm cdv ct) (body := body) (binds := binds) hroom ho rfl G.lim hcd rfl hbind hcell hloc (fun h₁ hns hk₁ => ?_) hco hgen hk)
  obtain ⟨B, big⟩ := base_ofH G hown
  exact wpAny_mono (h _ _ _ ⟨B, big, rfl, ⟨hns, fun b o e => hk₁ b o (B.of_ b o e), Nat.le_of_eq (hideAll_size _ _)⟩,
    (fun q hq => ⟨hk₁ _ _ (hown q hq).2, Nat.ne_of_lt (Heap.lt_size (hown q hq).2), B.own _ (List.mem_map_of_mem hq)⟩), tp.keeps fun b o _ e => hk₁ b o e, bare, rfl, fun q hq => (hown q hq).1⟩) (fun fl s' hq => hq) fun _ _ e => e.elim
theorem c_enterE {name qual : Str} {params : Arguments} {body : Expr} {scope : Scope} {cl : List (Str × Addr)} {dV doc pm cdv ct : Value} {d : Option Addr} {f : Addr} {args : List Value} {binds : List (Str × Value)}
    (own : List (Addr × Obj)) (O : Ok w s) (hroom : A.depth < recursionLimit)
    (hown : ∀ p ∈ own, Hi p.1 ∧ s.heap.get? p.1 = some p.2)
    (ho : s.heap.get? f = some (fnObj (kdv_fn name qual params (.expr body) scope cl dV doc pm cdv ct) d)) (hcd : s.heap.CodeRec cdv qual)
    (hbind : BindsTo s (kdv_fn name qual params (.expr body) scope cl dV doc pm cdv ct) ⟨args, []⟩ binds)
    (h : ∀ g L s₁, Cx w g (own.map (·.1)) s L (fun y => binds.reverse.lookup y) own s₁ →
      wpAny (model PG w) (A.deeper (envX qual scope L f cdv cl)) (eval body (envX qual scope L f cdv cl)) Q (fun _ _ => False) s₁)
    (hloc : ∀ y ∈ binds, scope.names.lookup y.1 = some .local := by exact locs (by kernel_rfl))
    (hcell : ∀ x ∈ scope.names, x.2 ≠ .cell := by decide) (hco : scope.isCoroutine = false := by rfl) (hgen : scope.isGenerator = false := by rfl) (hk : scope.kind = .function := by rfl) :
    wpAny (model PG w) A (PySem.call (.ref f) args) Q E s := by
  obtain ⟨G, tp, bare⟩ := O
  refine wpAny_call (kla_callFunE (fd := kdv_fn name qual params (.expr body) scope cl dV doc pm cdv ct) hroom ho rfl hco hgen rfl hcd (hbind _ _ _ _ ?_))
  refine wpAny_newFunctionEnv hcell hloc (fun h₁ hns hsb => ⟨G.lim.fresh _ hsb, ?_⟩) hk
  show codeAny _ _ (.expr body (envX qual scope s.heap.objs.size f cdv cl)) _ _
  have hk₁ : ∀ b o, s.heap.get? b = some o → h₁.get? b = some o := fun b o e => hsb.extBut b o (Nat.ne_of_lt (Heap.lt_size e)) (Heap.get?_push_of_some _ e)
  obtain ⟨B, big⟩ := base_ofH G hown
  exact kla_codeExpr (wpAny_mono (h _ _ _ ⟨B, big, rfl, ⟨hns, fun b o e => hk₁ b o (B.of_ b o e), Nat.le_of_eq (hideAll_size _ _)⟩,
    (fun q hq => ⟨hk₁ _ _ (hown q hq).2, Nat.ne_of_lt (Heap.lt_size (hown q hq).2), B.own _ (List.mem_map_of_mem hq)⟩), tp.keeps fun b o _ e => hk₁ b o e, bare, rfl, fun q hq => (hown q hq).1⟩) (fun v s' hq => hq) fun _ _ e => e.elim)
variable {g : Heap} {ws : List Addr} {s₀ : Shared} {L : Addr} {m : Str → Option Value} {news rest : List (Addr × Obj)} {cn : Str} {cs : Scope} {fa : Addr} {ccd : Value} {cl : List (Str × Addr)}
theorem c_free {x : Str} {pos : Pos} {cc : Addr} {o : Obj} {v : Value} (c : Cx w g ws s₀ L m news s) (hc : cl.lookup x = some cc) (e : g.get? cc = some o) (hd : o.data = .cell (some v)) (h : Q v s)
    (hk : cs.kind = .function := by rfl) (hx : (envX cn cs L fa ccd cl).kindOf x = some .free := by rfl) (hb : (x == ("__debug__" : Str)) = false := by decide) (hn : (x == ("__classdict__" : Str)) = false := by decide) :
    wpAny (model PG w) A (eval (.Name x pos) (envX cn cs L fa ccd cl)) Q E s := wpAny_Name (wpAny_loadName_free hk hx hc ⟨o, c.base e, hd⟩ h hn) hb
theorem c_lambda {cc P : Addr} {ps : Array Value} {qf : Nat → Str} {params : Arguments} {body : Expr} {scope : Scope} {pos : Pos} {clos : List (Str × Addr)}
    (c : Cx w g ws s₀ L m ((P, tabObj ps) :: rest) s) (hr : ∀ p ∈ rest, p.1 ≠ P) (hP' : P = 198 ∨ P = 205) (hd : codeHdIn (KK w) cc P = true) (C : CodesIn qf ps s.heap)
    (hcl : closureFor scope (envX cn cs L fa (.ref cc) cl) = pure clos) (hP4 : (4 : Addr) ≠ P) (hq : qf pos.line = (envX cn cs L fa (.ref cc) cl).qual ++ "<lambda>")
    (h : ∀ s' f cv ctv doc pm ps', Cx w g ws s₀ L m ((f, fnObj (kdv_fn "<lambda>" ((envX cn cs L fa (.ref cc) cl).qual ++ "<lambda>") params (.expr body) scope clos .none doc pm cv ctv) none) :: (P, tabObj ps') :: rest) s' → CodesIn qf ps' s'.heap → CodeHi s'.heap cv ((envX cn cs L fa (.ref cc) cl).qual ++ "<lambda>") → s.heap.objs.size ≤ f →
      (∀ b o, b ≠ P → s.heap.get? b = some o → s'.heap.get? b = some o) → Q (.ref f) s')
    (hdef : defaultsOf params (envX cn cs L fa (.ref cc) cl) = ([], []) := by rfl) :
    wpAny (model PG w) A (eval (.Lambda params body scope pos) (envX cn cs L fa (.ref cc) cl)) Q E s := by
  refine kla_eval hdef ?_
  rw [makeFunction_eq]
  simp only [List.zip_nil_right, List.filterMap_nil, List.isEmpty_nil, if_true, pure_bind]
  exact c_mk c hr hP' hd C hq hcl hP4 h
end
end Mine
end

section
open PySem PySem.W PySem.Calls PyProof.Rows
set_option maxRecDepth 100000
set_option maxHeartbeats 8000000
namespace Mine
noncomputable def notList (o : Obj) : Bool := match o.data with
  | .seq _ _ => !(o.cls == .type "list")
  | _ => true
theorem notList_cell {o : Obj} {v : Option Value} (h : o.data = .cell v) : notList o = true := by unfold notList; rw [h]
noncomputable def Keep2 (lo : Nat) (h h' : Heap) : Prop := ∀ b o, (221 : Nat) ≤ b → ((lo ≤ b ∧ notList o = true) ∨ ∃ vs, CodeD o vs) → h.get? b = some o → h'.get? b = some o
theorem Keep2.refl {lo : Nat} {h : Heap} : Keep2 lo h h := fun _ _ _ _ e => e
theorem Keep2.trans {lo : Nat} {h h' h'' : Heap} (a : Keep2 lo h h') (b : Keep2 lo h' h'') : Keep2 lo h h'' := fun x o h1 h2 e => b x o h1 h2 (a x o h1 h2 e)
theorem Keep2.list {lo : Nat} {h h' : Heap} {l : Addr} {vs : Array Value} {n : Nat} (el : h.get? l = some (listObj vs n)) (k : ∀ b o, b ≠ l → h.get? b = some o → h'.get? b = some o) : Keep2 lo h h' := fun b o _ hor e => k b o (by
  rintro rfl
  rw [el] at e; cases e
  rcases hor with ⟨_, q⟩ | ⟨_, q⟩
  · cases q
  · cases q.1) e
theorem Keep2.of {lo : Nat} {h h' : Heap} (k : ∀ b o, h.get? b = some o → h'.get? b = some o) : Keep2 lo h h' := fun x o _ _ e => k x o e
structure HitAt (w : World) (lo : Nat) (h : Heap) (v : Addr) (p z : Int) : Prop where
  ex : ∃ D fd lam hh tk, lo ≤ v ∧ lo ≤ D ∧ lo ≤ lam ∧ h.get? v = some (fnObj fd (some D)) ∧ h.get? D = some (dictOf [⟨hh, .str "span" tk, .ref lam⟩] 1) ∧ (∃ fd', h.get? lam = some (fnObj fd' none)) ∧
    ∀ (A : Around) (E Q : Value → Shared → Prop) (s : Shared), Ok w s → Keep2 lo h s.heap → A.depth < recursionLimit →
      (∀ s' T t1 t2, Ok w s' → St [] s s' → s'.heap.get? T = some (tupObj #[.int p t1, .int (p + z) t2]) → s.heap.objs.size ≤ T → Q (.ref T) s') → wpAny (model PG w) A (call (.ref lam) []) Q E s
  big : (221 : Nat) ≤ lo
theorem HitAt.keep {w : World} {lo : Nat} {h h' : Heap} {v : Addr} {p z : Int} (H : HitAt w lo h v p z) (k : Keep2 lo h h') : HitAt w lo h' v p z := by
  obtain ⟨⟨D, fd, lam, hh, tk, l1, l2, l3, e1, e2, ⟨fd', e3⟩, H⟩, big⟩ := H
  exact ⟨⟨D, fd, lam, hh, tk, l1, l2, l3, k _ _ (Nat.le_trans big l1) (.inl ⟨l1, rfl⟩) e1, k _ _ (Nat.le_trans big l2) (.inl ⟨l2, rfl⟩) e2, ⟨fd', k _ _ (Nat.le_trans big l3) (.inl ⟨l3, rfl⟩) e3⟩,
    fun A E Q s O k' => H A E Q s O (k.trans k')⟩, big⟩
theorem HitAt.mono {w : World} {lo lo' : Nat} {h : Heap} {v : Addr} {p z : Int} (H : HitAt w lo h v p z) (hl : lo' ≤ lo) (big : (221 : Nat) ≤ lo') : HitAt w lo' h v p z := by
  obtain ⟨⟨D, fd, lam, hh, tk, l1, l2, l3, e1, e2, ⟨fd', e3⟩, H⟩, _⟩ := H
  exact ⟨⟨D, fd, lam, hh, tk, Nat.le_trans hl l1, Nat.le_trans hl l2, Nat.le_trans hl l3, e1, e2, ⟨fd', e3⟩,
    fun A E Q s O k' => H A E Q s O fun b o h1 h2 e => k' b o h1 (h2.elim (fun h => .inl ⟨Nat.le_trans hl h.1, h.2⟩) .inr) e⟩, big⟩
theorem Cx.neLf {w : World} {g : Heap} {ws : List Addr} {s₀ s : Shared} {L : Addr} {m : Str → Option Value} {news : List (Addr × Obj)} (c : Cx w g ws s₀ L m news s) {b : Addr} {o : Obj} {vs : Array Value} (e : s.heap.get? b = some o) (hd : CodeD o vs) : b ≠ L := by
  rintro rfl
  obtain ⟨oL, es, ep, h1, h2, _⟩ := c.F.ns
  rw [e] at h1; cases h1; rw [hd.1] at h2; cases h2
theorem no_ownH {s : Shared} : ∀ p ∈ ([] : List (Addr × Obj)), Hi p.1 ∧ s.heap.get? p.1 = some p.2 := fun _ h => nomatch h
theorem Cx.grow1 {w : World} {g : Heap} {ws : List Addr} {s₀ s s' : Shared} {L : Addr} {m : Str → Option Value} {news news' : List (Addr × Obj)} {a : Addr} {o o' : Obj} (c : Cx w g ws s₀ L m news s) (U : Upd a o o' news news') (ha : (221 : Nat) ≤ a)
    (k : ∀ b x, b ≠ a → s.heap.get? b = some x → s'.heap.get? b = some x) (e : s'.heap.get? a = some o') (hz : s.heap.objs.size ≤ s'.heap.objs.size) (hg : s'.gens = s.gens) (ho : s'.os = s.os) : Cx w g ws s₀ L m news' s' := by
  have S : St [a] s s' := ⟨fun b x hb _ e => k b x (fun q => hb (by rw [q]; exact .head _)) e, hz, ho⟩
  have O : Ok w s' := ⟨c.gd.low fun b x hb _ e => k b x (fun q => absurd ha (by rw [← q]; exact Nat.not_le.mpr hb)) e, c.T.keeps fun b x hb e => k b x (fun q => not_tab ha (q ▸ hb)) e, hg ▸ c.bare⟩
  exact c.call1 U S O e
noncomputable def qH : Nat → Str := fun _ => "_law_hit.<locals>.<lambda>"
theorem own213 {s : Shared} {ps : Array Value} (h : s.heap.get? 198 = some (tabObj ps)) : ∀ p ∈ [((198 : Addr), tabObj ps)], Hi p.1 ∧ s.heap.get? p.1 = some p.2 := fun p hp => by
  cases hp with | head => exact ⟨.inr (.inl rfl), h⟩ | tail _ h => cases h
section
variable {w : World} {A : Around} {E : Value → Shared → Prop} {s : Shared} {Q : Value → Shared → Prop}
theorem hit_ok {p z : Int} {t1 t2 : Tok} {ps : Array Value} (O : Ok w s) (r : Rm A 3) (hT : s.heap.get? 198 = some (tabObj ps)) (C : CodesIn qH ps s.heap)
    (h : ∀ s' v ps', Ok w s' → St [198] s s' → s'.heap.get? 198 = some (tabObj ps') → CodesIn qH ps' s'.heap → HitAt w s.heap.objs.size s'.heap v p z → Q (.ref v) s') :
    wpAny (model PG w) A (call (.ref 203) [.int p t1, .int z t2]) Q E s := by
  refine c_enterCells (binds := [("place", .int p t1), ("size", .int z t2)]) (fun L => [("size", L + 2), ("place", L + 1)]) [(198, tabObj ps)] O r.room (own213 hT) (fun g L s₁ cells c Y k₁ => ?_) (hclf := fun _ => rfl) (hkind := fun n x hx => ?_) (hab := fun n q hq => ?_)
  · obtain ⟨o2, o1, rfl, d2, d1⟩ := Y.two
    have big : (221 : Nat) ≤ s.heap.objs.size := (base_of (own := []) O.gd no_own).2
    obtain rfl : s.heap.objs.size = L := c.hL
    generalize hLL : s.heap.objs.size = L at *
    have C₁ : CodesIn qH ps s₁.heap := C.keep fun b o vs _ _ e => k₁ b o e
    have c₁ := c.drop (news' := [(198, tabObj ps), (L + 2, o2), (L + 1, o1)]) (fun q hq => by
      simp only [List.mem_cons, List.not_mem_nil, or_false] at hq
      rcases hq with rfl | rfl | rfl
      · exact .tail _ (.tail _ (.head _))
      · exact .head _
      · exact .tail _ (.head _))
    refine wpAny_execs_cons ?_
    refine wpAny_Assign_Name ?_
    refine c_lambda (qf := qH) (clos := []) c₁ ?_ (.inl rfl) ?_ C₁ ?_ ?_ ?_ fun s₂ f₂ cv₂ ct₂ doc₂ pm₂ ps₂ c₂ C₂ R₂ lf₂ k₂ => ?_
    · intro q hq
      simp only [List.mem_cons, List.not_mem_nil, or_false] at hq
      have h213 : ∀ k : Nat, L + k ≠ 198 := fun k e => by (exact om202 big e)
      rcases hq with rfl | rfl
      · exact h213 2
      · exact h213 1
    · kernel_rfl
    · rfl
    · decide
    · rfl
    · have d1' : o1.data = .cell (some (.int p t1)) := d1
      have d2' : o2.data = .cell (some (.int z t2)) := d2
      refine c_storeK c₂ fun s₃ c₃ k₃ => ?_
      have C₃ : CodesIn qH ps₂ s₃.heap := C₂.keep fun b o vs _ hd e => k₃ b o (c₂.neLf e hd) e
      refine wpAny_execs_cons ?_
      refine plainObj_wpAny_Assign_Attribute ?_
      have hs1 : L + 2 < s₁.heap.objs.size := Heap.lt_size (c₁.get (.tail _ (.head _)))
      have l2' : L + 2 < f₂ := Nat.lt_of_lt_of_le hs1 lf₂
      have l2 : L < f₂ := by (exact om203 l2')
      have hf2 : f₂ ≠ 198 := fun e => by rw [e] at l2; exact absurd l2 (Nat.not_lt.mpr (Nat.le_trans (show 198 ≤ 221 by decide) big))
      have c₃' := c₃.drop (news' := (198, tabObj ps₂) :: (f₂, _) :: [(L + 2, o2), (L + 1, o1)]) (fun q hq => by
        cases hq with
        | head => exact .tail _ (.head _)
        | tail _ hq => cases hq with
          | head => exact .head _
          | tail _ hq => exact .tail _ (.tail _ hq))
      refine c_lambda (qf := qH) (clos := [("size", L + 2), ("place", L + 1)]) c₃' ?_ (.inl rfl) ?_ C₃ ?_ ?_ ?_ fun s₄ f₄ cv₄ ct₄ doc₄ pm₄ ps₄ c₄ C₄ R₄ lf₄ k₄ => ?_
      · intro q hq
        simp only [List.mem_cons, List.not_mem_nil, or_false] at hq
        rcases hq with rfl | rfl | rfl
        · exact hf2
        · exact fun (e : L + 2 = 198) => by (exact om204 big e)
        · exact fun (e : L + 1 = 198) => by (exact om205 big e)
      · kernel_rfl
      · rfl
      · decide
      · rfl
      · refine c_name c₄ rfl ?_
        have hf24 : f₄ ≠ f₂ := fun e => by
          have h1 := Heap.lt_size (c₃'.get (.tail _ (.head _)))
          rw [← e] at h1
          exact absurd h1 (Nat.not_lt.mpr lf₄)
        refine fn_setAttr (c₄.get (.tail _ (.tail _ (.head _)))) S.fn_span (fun hh key => ?_) fun s₅ hh tk k₅ e₅ D₅ z₅ g₅ o₅ => ?_
        · rfl
        have c₅ := c₄.grow1 (Upd.tail hf24 (Upd.tail hf2.symm (Upd.head (fun q hq => by
          simp only [List.mem_cons, List.not_mem_nil, or_false] at hq
          rcases hq with rfl | rfl
          · exact Nat.ne_of_lt l2'
          · exact Nat.ne_of_lt (show L + 1 < f₂ by (exact Nat.le_of_lt (by assumption))))))) (Nat.le_of_lt (Nat.lt_of_le_of_lt big l2)) k₅ e₅ (Nat.le_of_lt (by rw [z₅]; exact Nat.lt_succ_self _)) g₅ o₅
        refine wpAny_execs_cons ?_
        refine wpAny_Return_some ?_
        refine c_name c₅ rfl ?_
        refine h s₅ f₂ ps₄ c₅.ok c₅.st (c₅.get (.tail _ (.head _))) ?_ ?_
        · exact C₄.keep fun b o vs _ hd e => k₅ b o (fun q => by rw [q, c₄.get (.tail _ (.tail _ (.head _)))] at e; cases e; cases hd.1) e
        · have R₅ := R₄.keep (h' := s₅.heap) fun b o vs _ hd e => k₅ b o (fun q => by rw [q, c₄.get (.tail _ (.tail _ (.head _)))] at e; cases e; cases hd.1) e
          have lf4' : L ≤ f₄ := Nat.le_of_lt (Nat.lt_trans l2 (Nat.lt_of_lt_of_le (Heap.lt_size (c₃'.get (.tail _ (.head _)))) lf₄))
          have lD : L ≤ s₄.heap.objs.size := by
            have h1 := c₄.lt
            rw [hLL] at h1
            exact Nat.le_of_lt h1
          have e4 := c₅.get (.head _)
          have eo2 := c₅.get (.tail _ (.tail _ (.tail _ (.head _))))
          have eo1 := c₅.get (.tail _ (.tail _ (.tail _ (.tail _ (.head _)))))
          refine ⟨⟨s₄.heap.objs.size, _, f₄, hh, tk, Nat.le_of_lt l2, lD, lf4', e₅, D₅, ⟨_, e4⟩, fun A' E' Q' s' O' K' hroom' hq => ?_⟩, big⟩
          have R' := R₅.keep (h' := s'.heap) fun b o vs hb hd e => K' b o hb (.inr ⟨vs, hd⟩) e
          refine c_enterE [] O' hroom' no_ownH (K' _ _ (Nat.le_trans big lf4') (.inl ⟨lf4', rfl⟩) e4) R'.rec (binds := []) (BindsTo.of_eq rfl) fun g' L' s₆ c₆ => ?_
          have g1 : g'.get? (L + 1) = some o1 := c₆.B.all _ _ (fun h => nomatch h) (not_tab (show 221 ≤ L + 1 by (exact Nat.le_succ_of_le (by assumption)))) (K' _ _ (show 221 ≤ L + 1 by (exact Nat.le_succ_of_le (by assumption))) (.inl ⟨show L ≤ L + 1 by (exact om124), notList_cell d1'⟩) eo1)
          have g2 : g'.get? (L + 2) = some o2 := c₆.B.all _ _ (fun h => nomatch h) (not_tab (show 221 ≤ L + 2 by (exact om206 big))) (K' _ _ (show 221 ≤ L + 2 by (exact om206 big)) (.inl ⟨show L ≤ L + 2 by (exact om207), notList_cell d2'⟩) eo2)
          refine Tuple_ (spliced_more ?_)
          refine c_free c₆ rfl g1 d1' ?_
          refine spliced_more ?_
          refine wpAny_BinOp ?_
          refine c_free c₆ rfl g1 d1' ?_
          refine c_free c₆ rfl g2 d2' ?_
          refine PyProof.Rows.add_int ?_
          have c₇ := c₆.ext (s' := { s₆ with toks := s₆.toks + 1 }) (fun _ _ e => e) rfl rfl
          refine spliced_none ?_
          refine c_tupleK c₇ fun s₈ u c₈ k₈ eu hu => ?_
          exact hq s₈ u _ _ c₈.ok c₈.st eu (hu ▸ Nat.le_of_lt c₆.lt)
  · simp only [List.mem_cons, List.not_mem_nil, or_false] at hx
    rcases hx with rfl | rfl <;> exact .inr ⟨rfl, rfl⟩
  · exact cells_hab n q hq
end
end Mine
end

section
open PySem PySem.W PySem.Calls PyProof.Rows
set_option maxRecDepth 100000
set_option maxHeartbeats 8000000
namespace Mine
theorem sub_one (a b c : Nat) : ∀ i : Nat, i < 3 → Builtin.Str.subAt ⟨#[a, b]⟩ ⟨#[c]⟩ i = (i == 0 && a == c || i == 1 && b == c)
  | 0, _ => by simp [Builtin.Str.subAt, Str.length]
  | 1, _ => by simp [Builtin.Str.subAt, Str.length]
  | 2, _ => by simp [Builtin.Str.subAt, Str.length]
  | n + 3, h => absurd h (by (exact om208 h))
theorem white_in (c : Nat) : Txt.contains (⟨#[32, 9]⟩ : Str) ⟨#[c]⟩ = isW c := by
  unfold Txt.contains
  have e : Builtin.Str.occurrences (⟨#[32, 9]⟩ : Str) ⟨#[c]⟩ 0 2 1 = if (32 == c) then [0] else if (9 == c) then [1] else [] := by
    unfold Builtin.Str.occurrences
    have h0 := sub_one 32 9 c 0 (by decide)
    have h1 := sub_one 32 9 c 1 (by decide)
    have h2 := sub_one 32 9 c 2 (by decide)
    simp [List.range', Str.length, h0, h1, h2]
    by_cases a : 32 = c
    · rw [if_pos a, if_pos a]; rfl
    · rw [if_neg a, if_neg a]
      by_cases b : 9 = c
      · rw [if_pos b]; simp [b]
      · rw [if_neg b]; simp [b]
  show (!(Builtin.Str.occurrences (⟨#[32, 9]⟩ : Str) ⟨#[c]⟩ 0 2 1).isEmpty) = _
  rw [e]
  unfold isW
  by_cases a : c = 32
  · subst a; rfl
  · by_cases b : c = 9
    · subst b; rfl
    · have h1 : (32 == c) = false := beq_eq_false_iff_ne.mpr fun h => a h.symm
      have h2 : (9 == c) = false := beq_eq_false_iff_ne.mpr fun h => b h.symm
      have h3 : (c == 32) = false := beq_eq_false_iff_ne.mpr a
      have h4 : (c == 9) = false := beq_eq_false_iff_ne.mpr b
      rw [h1, h2, h3, h4]; rfl
noncomputable def seam (sg x : List Nat) (p : Nat) : Bool := match x[p]?, x[p - 1]? with
  | some c, some b => isW c && !isW b && (sg == [] || (sg == [c] || sg == [b]))
  | _, _ => false
noncomputable def firstSeam (sg x : List Nat) : Nat → Nat → Option Nat
  | 0, _ => none
  | n + 1, p => if seam sg x p then some p else firstSeam sg x n (p + 1)
noncomputable def seamFrom (sg x : List Nat) (at_ : Nat) : Option Nat := firstSeam sg x (x.length - max at_ 1) (max at_ 1)
theorem firstSeam_at {sg x : List Nat} : ∀ {n p q : Nat}, q < n → (∀ k, k < q → seam sg x (p + k) = false) → seam sg x (p + q) = true → firstSeam sg x n p = some (p + q)
  | 0, _, _, h, _, _ => absurd h (Nat.not_lt_zero _)
  | n + 1, p, 0, _, _, h => by unfold firstSeam; rw [if_pos (by simpa using h)]; rfl
  | n + 1, p, q + 1, h, hno, hy => by
    unfold firstSeam
    rw [if_neg (by have := hno 0 (Nat.succ_pos _); simpa using this)]
    have := firstSeam_at (sg := sg) (x := x) (n := n) (p := p + 1) (q := q) (by (exact om209 h)) (fun k hk => by have := hno (k + 1) (by (exact Nat.lt_succ_of_le (by assumption))); rwa [show p + (k + 1) = p + 1 + k by (exact om210)] at this) (by rwa [show p + (q + 1) = p + 1 + q by (exact om210)] at hy)
    rw [this, show p + 1 + q = p + (q + 1) by (exact om88)]
theorem firstSeam_no {sg x : List Nat} : ∀ {n p : Nat}, (∀ k, k < n → seam sg x (p + k) = false) → firstSeam sg x n p = none
  | 0, _, _ => rfl
  | n + 1, p, h => by
    unfold firstSeam
    rw [if_neg (by have := h 0 (Nat.succ_pos _); simpa using this)]
    exact firstSeam_no fun k hk => by have := h (k + 1) (by (exact Nat.lt_succ_of_le (by assumption))); rwa [show p + (k + 1) = p + 1 + k by (exact om210)] at this
section
variable {w : World} {A : Around} {E : Value → Shared → Prop} {s : Shared} {I : Addr} {Q : Value → Shared → Prop}
theorem up_size (a b : Nat) (h : a ≤ b) : Builtin.Range.rangeSize a b 1 = ((b - a : Nat) : Int) := by
  unfold Builtin.Range.rangeSize
  rw [if_pos (by decide)]
  split
  · rename_i h
    have : ((b : Int) - a - 1) / 1 = b - a - 1 := by simp
    (exact om211 h this)
  · (exact om212 h (by assumption))
theorem up_size0 (a b : Nat) (h : b ≤ a) : Builtin.Range.rangeSize a b 1 = 0 := by
  unfold Builtin.Range.rangeSize
  rw [if_pos (by decide)]
  split
  · (exact om213 h (by assumption))
  · rfl
theorem up_size' (a b : Nat) : Builtin.Range.rangeSize a b 1 = ((b - a : Nat) : Int) := by
  rcases Nat.le_total a b with h | h
  · exact up_size a b h
  · rw [up_size0 a b h, Nat.sub_eq_zero_of_le h]; rfl
theorem up_small {a b : Nat} (ha : a ≤ 100000) (hb : b ≤ 100000) : Builtin.Range.small a b 1 = true := by
  unfold Builtin.Range.small
  rw [up_size']
  unfold Builtin.Range.rangeFitsLong
  simp only [Bool.and_eq_true, Bool.or_eq_true, decide_eq_true_eq]
  refine ⟨⟨⟨⟨by omega, by omega⟩, by omega⟩, by omega⟩, .inr ?_⟩
  rw [if_pos (by decide), Bool.and_eq_true]
  exact ⟨decide_eq_true (by omega), decide_eq_true (by omega)⟩
theorem up_iter {a b : Nat} {t u : Tok} (ha : a ≤ 100000) (hb : b ≤ 100000) (h : ∀ s', (∀ b o, s.heap.get? b = some o → s'.heap.get? b = some o) → s'.gens = s.gens → s'.os = s.os → IsRangeIter s'.heap I a ((b - a : Nat) : Int) 1 → (s.heap.objs.size : Nat) ≤ I → Q (.ref I) s')
    (hI : I = s.heap.objs.size + 1) :
    wpAny (model PG w) A (call (.type "range") [.int a t, .int b u]) (fun x s₁ => wpAny (model PG w) A (pyIter x) Q E s₁) E s := by
  refine call_range_2 ?_
  refine wpAny_pyIter_range (s := { s with heap := s.heap.push { cls := .type "range", data := .fields #[.int a t, .int b u, .int 1 s.toks] }, toks := s.toks + 1 }) (a := a) (b := b) (c := 1) (t := t) (u := u) (v := s.toks) (IsRange.new ..) (up_small ha hb) ?_
  have e : (s.heap.push { cls := .type "range", data := .fields #[.int a t, .int b u, .int 1 s.toks] }).objs.size = I := by rw [Heap.size_push, hI]
  show Q (.ref (s.heap.push { cls := .type "range", data := .fields #[.int a t, .int b u, .int 1 s.toks] }).objs.size) _
  rw [e, up_size']
  refine h _ (fun b o e => Heap.get?_push_of_some _ (Heap.get?_push_of_some _ e)) rfl rfl ?_ (by rw [hI]; exact Nat.le_succ _)
  rw [← e]
  exact Heap.get?_push_size _ rfl
end
end Mine
end

section
open PySem PySem.W PySem.Calls PyProof.Rows
set_option maxRecDepth 100000
set_option maxHeartbeats 8000000
namespace Mine
noncomputable def SearchOk (w : World) (lo : Nat) (h : Heap) (sg : Str) (z : Int) (srch : Addr) : Prop :=
  ∀ (A : Around) (E Q : Value → Shared → Prop) (s : Shared) (x : Str) (t : Tok) (args : List Value) (at_ : Nat) (ps : Array Value), Ok w s → Rm A 6 → Keep2 lo h s.heap → s.heap.get? 198 = some (tabObj ps) → CodesIn qH ps s.heap → x.length ≤ 1000 → at_ ≤ 2000 →
    (args = [.str x t] ∧ at_ = 0 ∨ ∃ ta, args = [.str x t, .int at_ ta]) →
    (∀ s' r ps', Ok w s' → St [198] s s' → s'.heap.get? 198 = some (tabObj ps') → CodesIn qH ps' s'.heap → (match seamFrom sg.cps.toList x.cps.toList at_ with | none => r = .none | some p => ∃ u, r = .ref u ∧ HitAt w s.heap.objs.size s'.heap u p z) → Q r s') →
    wpAny (model PG w) A (call (.ref srch) args) Q E s
structure FinderAt (w : World) (lo : Nat) (h : Heap) (v : Addr) (sg : Str) (z : Int) : Prop where
  ex : ∃ D fd srch hh tk, lo ≤ v ∧ lo ≤ D ∧ lo ≤ srch ∧ h.get? v = some (fnObj fd (some D)) ∧ h.get? D = some (dictOf [⟨hh, .str "search" tk, .ref srch⟩] 1) ∧ (∃ fd', h.get? srch = some (fnObj fd' none)) ∧ SearchOk w lo h sg z srch
  big : (221 : Nat) ≤ lo
theorem FinderAt.keep {w : World} {lo : Nat} {h h' : Heap} {v : Addr} {sg : Str} {z : Int} (H : FinderAt w lo h v sg z) (k : Keep2 lo h h') : FinderAt w lo h' v sg z := by
  obtain ⟨⟨D, fd, srch, hh, tk, l1, l2, l3, e1, e2, ⟨fd', e3⟩, H⟩, big⟩ := H
  exact ⟨⟨D, fd, srch, hh, tk, l1, l2, l3, k _ _ (Nat.le_trans big l1) (.inl ⟨l1, rfl⟩) e1, k _ _ (Nat.le_trans big l2) (.inl ⟨l2, rfl⟩) e2, ⟨fd', k _ _ (Nat.le_trans big l3) (.inl ⟨l3, rfl⟩) e3⟩,
    fun A E Q s x t args at_ ps O r k' => H A E Q s x t args at_ ps O r (k.trans k')⟩, big⟩
noncomputable def qF : Nat → Str := fun n => if n = 142 then "_law_finder.<locals>._law_search" else "_law_finder.<locals>.<lambda>"
theorem not213 {b : Addr} {o : Obj} (h : (221 : Nat) ≤ b) : b ∉ List.map (fun x => x.1) [((198 : Addr), o)] := fun q => by
  have := List.mem_singleton.mp q
  rw [show b = 198 from this] at h; exact absurd h (by decide)
theorem own220 {s : Shared} {ps : Array Value} (h : s.heap.get? 205 = some (tabObj ps)) : ∀ p ∈ [((205 : Addr), tabObj ps)], Hi p.1 ∧ s.heap.get? p.1 = some p.2 := fun p hp => by
  cases hp with | head => exact ⟨.inr (.inr rfl), h⟩ | tail _ h => cases h
section
variable {w : World} {A : Around} {E : Value → Shared → Prop} {s : Shared} {Q : Value → Shared → Prop}
theorem seq_at {x : Str} {p : Nat} {c : Nat} (h : x.cps.toList[p]? = some c) : (seqIndex? (p : Int) x.length).bind (x.cps[·]?) = some c := by
  rw [Array.getElem?_toList] at h
  have hp : p < x.cps.size := (Array.getElem?_eq_some_iff.mp h).1
  have hp' : p < x.length := hp
  have : seqIndex? (p : Int) x.length = some p := by
    unfold seqIndex?
    have h1 : ¬ ((p : Int) < 0) := by (exact om216)
    simp [h1]
    exact hp'
  rw [this]
  exact h
theorem finder_ok {sg : Str} {z : Int} {t1 t2 : Tok} {ps : Array Value} (O : Ok w s) (r : Rm A 3) (hT : s.heap.get? 205 = some (tabObj ps)) (C : CodesIn qF ps s.heap)
    (h : ∀ s' v ps', Ok w s' → St [205] s s' → s'.heap.get? 205 = some (tabObj ps') → CodesIn qF ps' s'.heap → FinderAt w s.heap.objs.size s'.heap v sg z → Q (.ref v) s') :
    wpAny (model PG w) A (call (.ref 210) [.str sg t1, .int z t2]) Q E s := by
  refine c_enterCells (binds := [("sign", .str sg t1), ("size", .int z t2)]) (fun L => [("size", L + 2), ("sign", L + 1)]) [(205, tabObj ps)] O r.room (own220 hT) (fun g L s₁ cells c Y k₁ => ?_) (hclf := fun _ => rfl) (hkind := fun n x hx => ?_) (hab := fun n q hq => ?_)
  · obtain ⟨o2, o1, rfl, d2, d1⟩ := Y.two
    have big : (221 : Nat) ≤ s.heap.objs.size := (base_of (own := []) O.gd no_own).2
    obtain rfl : s.heap.objs.size = L := c.hL
    generalize hLL : s.heap.objs.size = L at *
    have C₁ : CodesIn qF ps s₁.heap := C.keep fun b o vs _ _ e => k₁ b o e
    have d1' : o1.data = .cell (some (.str sg t1)) := d1
    have d2' : o2.data = .cell (some (.int z t2)) := d2
    have hs1 : L + 2 < s₁.heap.objs.size := Heap.lt_size (c.get (.head _))
    refine wpAny_execs_cons ?_
    refine kdv_def ?_ ?_ ?_ ?_
    · rfl
    · rfl
    · rfl
    · refine kdv_all1 (c_intK c fun s₂ t₂ c₂ e₂ => kdv_all0 ?_)
      rw [makeFunction_eq]
      simp only [List.zip_nil_right, List.filterMap_nil, List.isEmpty_nil, if_true, pure_bind, List.isEmpty_cons, Bool.false_eq_true, if_false]
      refine wpAny_bind (wpAny_newTextTuple ?_)
      have c₃ := Cx.new (a := s₂.heap.objs.size) (o := kdv_tup [.int 0 t₂]) (c₂.ext (s' := { s₂ with heap := s₂.heap.push (kdv_tup [.int 0 t₂]) }) (fun _ _ e => Heap.get?_push_of_some _ e) rfl rfl) (Heap.get?_push_size _ rfl) c₂.lt
      have k₃ : ∀ b o, s₁.heap.get? b = some o → (s₂.heap.push (kdv_tup [.int 0 t₂])).get? b = some o := fun b o e => Heap.get?_push_of_some _ (by rw [e₂]; exact e)
      have hT0 : L + 2 < s₂.heap.objs.size := by rw [e₂]; exact hs1
      have hs₃ : s₂.heap.objs.size < (s₂.heap.push (kdv_tup [.int 0 t₂])).objs.size := by rw [Heap.size_push]; exact Nat.lt_succ_self _
      generalize s₂.heap.objs.size = T0 at c₃ hT0 hs₃ ⊢
      have c₃' := c₃.drop (news' := (205, tabObj ps) :: (T0, kdv_tup [.int 0 t₂]) :: [(L + 2, o2), (L + 1, o1)]) (fun q hq => by
        simp only [List.mem_cons, List.not_mem_nil, or_false] at hq
        rcases hq with rfl | rfl | rfl | rfl
        · exact .tail _ (.tail _ (.tail _ (.head _)))
        · exact .head _
        · exact .tail _ (.head _)
        · exact .tail _ (.tail _ (.head _)))
      have ne220 : ∀ k : Nat, L < k → k ≠ 205 := fun k e => by (exact om217 big e)
      refine c_mk (qf := qF) (clos := [("size", L + 2), ("sign", L + 1)]) c₃' ?_ (.inr rfl) ?_ (C₁.keep fun b o vs _ _ e => k₃ b o e) ?_ ?_ ?_ fun s₄ f₄ cv₄ ct₄ doc₄ pm₄ ps₄ c₄ C₄ R₄ lf₄ k₄ => ?_
      · intro q hq
        simp only [List.mem_cons, List.not_mem_nil, or_false] at hq
        rcases hq with rfl | rfl | rfl
        · exact ne220 _ (by lia)
        · exact ne220 _ (by lia)
        · exact ne220 _ (by (exact Nat.lt_succ_self _))
      · kernel_rfl
      · rfl
      · rfl
      · decide
      · refine c_storeK c₄ fun s₅ c₅ k₅ => ?_
        have C₅ : CodesIn qF ps₄ s₅.heap := C₄.keep fun b o vs _ hd e => k₅ b o (c₄.neLf e hd) e
        have R₅ := R₄.keep (h' := s₅.heap) fun b o vs _ hd e => k₅ b o (c₄.neLf e hd) e
        refine wpAny_execs_cons ?_
        refine wpAny_Assign_Name ?_
        have l4 : T0 < f₄ := Nat.lt_of_lt_of_le hs₃ lf₄
        have c₅' := c₅.drop (news' := (205, tabObj ps₄) :: (f₄, _) :: (T0, kdv_tup [.int 0 t₂]) :: [(L + 2, o2), (L + 1, o1)]) (fun q hq => by
          cases hq with
          | head => exact .tail _ (.head _)
          | tail _ hq => cases hq with
            | head => exact .head _
            | tail _ hq => exact .tail _ (.tail _ hq))
        refine c_lambda (qf := qF) (clos := []) c₅' ?_ (.inr rfl) ?_ C₅ ?_ ?_ ?_ fun s₆ f₆ cv₆ ct₆ doc₆ pm₆ ps₆ c₆ C₆ R₆ lf₆ k₆ => ?_
        · intro q hq
          simp only [List.mem_cons, List.not_mem_nil, or_false] at hq
          rcases hq with rfl | rfl | rfl | rfl
          · exact ne220 _ (by lia)
          · exact ne220 _ (by lia)
          · exact ne220 _ (by lia)
          · exact ne220 _ (by (exact Nat.lt_succ_self _))
        · kernel_rfl
        · rfl
        · decide
        · rfl
        · refine c_storeK c₆ fun s₇ c₇ k₇ => ?_
          have C₇ : CodesIn qF ps₆ s₇.heap := C₆.keep fun b o vs _ hd e => k₇ b o (c₆.neLf e hd) e
          have R₇ := (R₅.keep (h' := s₆.heap) fun b o vs hb hd e => k₆ b o (fun q => by rw [q] at hb; exact absurd hb (by decide)) e).keep (h' := s₇.heap) fun b o vs _ hd e => k₇ b o (c₆.neLf e hd) e
          have l6a : s₅.heap.objs.size > f₄ := Heap.lt_size (c₅'.get (.tail _ (.head _)))
          have l6 : f₄ < f₆ := Nat.lt_of_lt_of_le l6a lf₆
          refine wpAny_execs_cons ?_
          refine plainObj_wpAny_Assign_Attribute ?_
          refine c_name c₇ rfl ?_
          refine c_name c₇ rfl ?_
          refine fn_setAttr (c₇.get (.head _)) S.fn_search (fun hh key => ?_) fun s₈ hh tk k₈ e₈ D₈ z₈ g₈ o₈ => ?_
          · rfl
          have c₈ := c₇.grow1 (Upd.head (fun q hq => by
            simp only [List.mem_cons, List.not_mem_nil, or_false] at hq
            rcases hq with rfl | rfl | rfl | rfl | rfl
            · exact fun e => ne220 f₆ (by (exact om221 hT0 l4 lf₆ l6a)) e.symm
            · exact Nat.ne_of_lt l6
            · exact Nat.ne_of_lt (show T0 < f₆ by (exact om222 l4 lf₆ l6a))
            · exact Nat.ne_of_lt (show L + 2 < f₆ by (exact om223 hT0 l4 lf₆ l6a))
            · exact Nat.ne_of_lt (show L + 1 < f₆ by (exact om224 hT0 l4 lf₆ l6a)))) (show (221 : Nat) ≤ f₆ by (exact om225 big hT0 l4 lf₆ l6a)) k₈ e₈ (Nat.le_of_lt (by rw [z₈]; exact Nat.lt_succ_self _)) g₈ o₈
          have nf6 : ∀ {b : Addr} {o : Obj} {vs : Array Value}, CodeD o vs → s₇.heap.get? b = some o → b ≠ f₆ := fun hd e q => by rw [q, c₇.get (.head _)] at e; cases e; cases hd.1
          have R₈ := R₇.keep (h' := s₈.heap) fun b o vs _ hd e => k₈ b o (nf6 hd e) e
          refine wpAny_execs_cons ?_
          refine wpAny_Return_some ?_
          refine c_name c₈ rfl ?_
          have lD : L ≤ s₇.heap.objs.size := by
            have h1 := c₇.lt
            rw [hLL] at h1
            exact Nat.le_of_lt h1
          have e4 := c₈.get (.tail _ (.tail _ (.head _)))
          have eT0 := c₈.get (.tail _ (.tail _ (.tail _ (.head _))))
          have eo2 := c₈.get (.tail _ (.tail _ (.tail _ (.tail _ (.head _)))))
          have eo1 := c₈.get (.tail _ (.tail _ (.tail _ (.tail _ (.tail _ (.head _))))))
          refine h s₈ f₆ ps₆ c₈.ok c₈.st (c₈.get (.tail _ (.head _))) (C₇.keep fun b o vs _ hd e => k₈ b o (nf6 hd e) e) ⟨⟨s₇.heap.objs.size, _, f₄, hh, tk, show L ≤ f₆ by (exact om226 hT0 l4 lf₆ l6a), lD, show L ≤ f₄ by (exact om227 hT0 l4), e₈, D₈, ⟨_, e4⟩, fun A' E' Q' s' x t args at_ ps' O' r' K' hT' C' hx hat hargs hq => ?_⟩, big⟩
          have R' := R₈.keep (h' := s'.heap) fun b o vs hb hd e => K' b o hb (.inr ⟨vs, hd⟩) e
          have up : ∀ {b : Addr} {o : Obj}, L ≤ b → notList o = true → s₈.heap.get? b = some o → s'.heap.get? b = some o := fun hb hn e => K' _ _ (Nat.le_trans big hb) (.inl ⟨hb, hn⟩) e
          obtain ⟨ta, hta⟩ : ∃ ta, args = [.str x t, .int at_ ta] ∨ (args = [.str x t] ∧ at_ = 0 ∧ ta = t₂) := by
            rcases hargs with ⟨h1, h2⟩ | ⟨ta, h1⟩
            · exact ⟨t₂, .inr ⟨h1, h2, rfl⟩⟩
            · exact ⟨ta, .inl h1⟩
          have ga : (221 : Nat) ≤ L + 1 := by (exact Nat.le_succ_of_le (by assumption))
          refine c_enterF (binds := [("chars", .str x t), ("at", .int at_ ta)]) [(198, tabObj ps')] O' r'.room (own213 hT') (up (show L ≤ f₄ by (exact om227 hT0 l4)) rfl e4) R'.rec ?_ fun g' L' s₉ c₉ => ?_
          · rcases hta with rfl | ⟨rfl, rfl, rfl⟩
            · exact BindsTo.of_defaults rfl (up (show L ≤ T0 by (exact om228 hT0)) rfl eT0) rfl rfl rfl
            · exact BindsTo.of_defaults rfl (up (show L ≤ T0 by (exact om228 hT0)) rfl eT0) rfl rfl rfl
          · have eo1' := up (show L ≤ L + 1 by (exact om124)) (notList_cell d1') eo1
            have eo2' := up (show L ≤ L + 2 by (exact om207)) (notList_cell d2') eo2
            have g1 : g'.get? (L + 1) = some o1 := c₉.B.all _ _ (not213 ga) (not_tab ga) eo1'
            have g2 : g'.get? (L + 2) = some o2 := c₉.B.all _ _ (not213 (show 221 ≤ L + 2 by (exact Nat.le_succ_of_le (by assumption)))) (not_tab (show 221 ≤ L + 2 by (exact Nat.le_succ_of_le (by assumption)))) eo2'
            have C₉ : CodesIn qH ps' g' := C'.keep fun b o vs hb hd e => c₉.B.all b o (not213 hb) (not_tab hb) e
            refine wpAny_execs_cons ?_
            refine wpAny_For ?_
            refine Call_ ?_
            refine c_built c₉ (v := .type "range") ?_ ?_ ?_ ?_
            · kernel_rfl
            · kernel_rfl
            · decide
            refine PyProof.Rows.callWith_type1 ?_
            refine spliced_more ?_
            refine Call_ ?_
            refine c_built c₉ (v := .builtin "max") ?_ ?_ ?_ ?_
            · kernel_rfl
            · kernel_rfl
            · decide
            refine PyProof.Rows.callWith_builtin1 ?_
            refine spliced_more (c_name c₉ rfl ?_)
            refine spliced_more (c_intK c₉ fun s₁₀ t₁₀ c₁₀ e₁₀ => spliced_none ?_)
            refine max_two_ints (by exact r'.hd) fun h₁₁ tk₁₁ k₁₁ => ?_
            obtain ⟨τ, hτ⟩ : ∃ τ, (if (1 : Int) > at_ then Value.int 1 t₁₀ else Value.int at_ ta) = Value.int ((max at_ 1 : Nat) : Int) τ := by
              by_cases hc : (1 : Int) > at_
              · rw [if_pos hc, show max at_ 1 = 1 by (exact om229 hat hc)]; exact ⟨t₁₀, rfl⟩
              · rw [if_neg hc, show max at_ 1 = at_ by (exact om230 hat hc)]; exact ⟨ta, rfl⟩
            rw [hτ]
            have c₁₁ := c₁₀.ext (s' := { s₁₀ with heap := h₁₁, toks := tk₁₁ }) k₁₁ rfl rfl
            refine spliced_more ?_
            refine Call_ ?_
            refine c_built c₁₁ (v := .builtin "len") ?_ ?_ ?_ ?_
            · kernel_rfl
            · kernel_rfl
            · decide
            refine PyProof.Rows.callWith_builtin1 (spliced_more (c_name c₁₁ rfl (spliced_none ?_)))
            refine P.len_str (by lia) ?_
            have c₁₂ := c₁₁.ext (s' := { s₁₀ with heap := h₁₁, toks := tk₁₁ + 1 + 1 }) (fun _ _ e => e) rfl rfl
            refine spliced_none ?_
            refine up_iter (a := max at_ 1) (b := x.length) (I := h₁₁.objs.size + 1) (s := { s₁₀ with heap := h₁₁, toks := tk₁₁ + 1 + 1 }) (by (exact om231 hat)) (by (exact om29 hx)) (fun s₁₃ k₁₃ hg₁₃ ho₁₃ it₁₃ le₁₃ => ?_) rfl
            have c₁₃ := c₁₂.ext (s' := s₁₃) k₁₃ hg₁₃ ho₁₃
            obtain ⟨hJ1, hJ2, hJ3, hJ4⟩ := c₁₂.fresh (I := h₁₁.objs.size + 1) le₁₃
            have ro₁₃ : Ro L' { s₁₀ with heap := h₁₁, toks := tk₁₁ + 1 + 1 } s₁₃ := Ro.refl.ext k₁₃
            refine r_for (Walks.range (by exact r'.hd) _ ((max at_ 1 : Nat) : Int) 1 (x.length - max at_ 1)) { s₁₀ with heap := h₁₁, toks := tk₁₁ + 1 + 1 } hJ1 hJ2 hJ3 hJ4 (Ro.refl.none le₁₃ hJ1 hJ3) (fun j m => m "chars" = some (.str x t) ∧ ∀ k, k < j → seam sg.cps.toList x.cps.toList (max at_ 1 + k) = false) ?_ ?_ c₁₃ ro₁₃ ⟨rfl, fun k hk => absurd hk (Nat.not_lt_zero _)⟩ (by simpa using it₁₃)
            · rintro j v m s₁₄ hj ⟨hm, hno⟩ c₁₄ ro₁₄ ⟨tv, rfl⟩
              obtain ⟨p, hp⟩ : ∃ p, p = max at_ 1 + j := ⟨_, rfl⟩
              have hxl : x.cps.toList.length = x.length := by rw [Array.length_toList]; rfl
              have hp1 : p < x.cps.toList.length := by (exact om232 hj hp hxl)
              obtain ⟨cc, hcc⟩ : ∃ cc, x.cps.toList[p]? = some cc := ⟨_, List.getElem?_eq_getElem hp1⟩
              obtain ⟨bb, hbb⟩ : ∃ bb, x.cps.toList[p - 1]? = some bb := ⟨_, List.getElem?_eq_getElem (by (exact om233 hx hxl hp1))⟩
              have hse : seam sg.cps.toList x.cps.toList p = (isW cc && !isW bb && (sg.cps.toList == [] || (sg.cps.toList == [cc] || sg.cps.toList == [bb]))) := by
                unfold seam
                rw [hcc, hbb]
              rw [show ((max at_ 1 : Nat) : Int) + (j : Int) * 1 = ((p : Nat) : Int) by (exact om234 hp)]
              refine wpAny_assign_Name (c_storeK c₁₄ fun s₁₅ c₁₅ k₁₅ => ?_)
              have ro₁₅ : Ro L' s₁₄ s₁₅ := Ro.refl.but k₁₅
              obtain ⟨m₁, hm₁, c₁₅⟩ := c₁₅.named
              have hpl : m₁ "place" = some (.int p tv) := by rw [hm₁]; exact if_pos rfl
              have hch : m₁ "chars" = some (.str x t) := by rw [hm₁]; exact (if_neg (by decide)).trans hm
              clear hm₁
              refine wpAny_execs_cons ?_
              refine wpAny_If (wpAny_mono (Q := fun b z' => b = (isW cc && !isW bb) ∧ Cx w g' [198] s' L' m₁ [(198, tabObj ps')] z' ∧ Ro L' s₁₄ z') ?_ ?_ fun _ _ e => e)
              · refine isTrue_and (wpAny_isTrue_Compare1 ?_)
                refine Subscript_ (c_name c₁₅ hch (c_name c₁₅ hpl (sign_item (by simp; omega) (seq_at hcc) ?_)))
                have c₁₆ := c₁₅.ext (s' := { s₁₅ with toks := s₁₅.toks + 1 }) (fun _ _ e => e) rfl rfl
                refine c_strK c₁₆ fun s₁₇ t₁₇ c₁₇ e₁₇ => ?_
                have ro₁₇ : Ro L' s₁₄ s₁₇ := ro₁₅.eq (s'' := s₁₇) e₁₇
                refine P.in_str ?_
                refine wpAny_truthy_bool ?_
                have hw1 : (!(Builtin.Str.occurrences (Str.ofString " \t") ⟨#[cc]⟩ 0 (Str.ofString " \t").length 1).isEmpty) = isW cc := white_in cc
                have hw2 : (!(Builtin.Str.occurrences (Str.ofString " \t") ⟨#[bb]⟩ 0 (Str.ofString " \t").length 1).isEmpty) = isW bb := white_in bb
                rw [hw1]
                cases hwc : isW cc with
                | false =>
                  rw [if_neg (by decide)]
                  exact ⟨rfl, c₁₇, ro₁₇⟩
                | true =>
                  rw [if_pos rfl]
                  refine isTrue_and (wpAny_isTrue_Compare1 ?_)
                  refine Subscript_ (c_name c₁₇ hch (wpAny_BinOp (c_name c₁₇ hpl (c_intK c₁₇ fun s₁₈ t₁₈ c₁₈ e₁₈ => sub_int ?_))))
                  rw [show ((p : Nat) : Int) - 1 = ((p - 1 : Nat) : Int) by (exact om235 hat hp)]
                  refine sign_item (by simp; omega) (seq_at hbb) ?_
                  have c₁₉ := c₁₈.ext (s' := { s₁₈ with toks := s₁₈.toks + 1 + 1 }) (fun _ _ e => e) rfl rfl
                  refine c_strK c₁₉ fun s₂₀ t₂₀ c₂₀ e₂₀ => ?_
                  have ro₂₀ : Ro L' s₁₄ s₂₀ := ro₁₇.eq (s'' := s₂₀) (by rw [e₂₀]; exact e₁₈)
                  refine P.notIn_str ?_
                  refine wpAny_truthy_bool ?_
                  rw [hw2]
                  cases hwb : isW bb with
                  | true =>
                    rw [if_neg (by decide)]
                    exact ⟨rfl, c₂₀, ro₂₀⟩
                  | false =>
                    rw [if_pos (by decide)]
                    exact isTrue_and_nil ⟨rfl, c₂₀, ro₂₀⟩
              · rintro b z₁ ⟨rfl, d₁, rz₁⟩
                cases hB : (isW cc && !isW bb) with
                | false =>
                  rw [if_neg (by decide)]
                  refine wpAny_execs_nil ?_
                  refine wpAny_execs_nil ?_
                  refine ⟨m₁, ⟨hch, fun k hk => ?_⟩, d₁, rz₁⟩
                  rcases Nat.lt_or_ge k j with h1 | h1
                  · exact hno k h1
                  · rw [show max at_ 1 + k = p by (exact om236 hp hk h1), hse, hB]; rfl
                | true =>
                  rw [if_pos rfl]
                  rw [hB, Bool.true_and] at hse
                  refine wpAny_execs_cons ?_
                  refine wpAny_If (wpAny_mono (Q := fun b z' => b = (sg.cps.toList == [] || (sg.cps.toList == [cc] || sg.cps.toList == [bb])) ∧ Cx w g' [198] s' L' m₁ [(198, tabObj ps')] z' ∧ Ro L' s₁₄ z') ?_ ?_ fun _ _ e => e)
                  · refine isTrue_or (wpAny_isTrue_Compare1 ?_)
                    refine c_free d₁ rfl g1 d1' ?_
                    refine c_strK d₁ fun z₂ u₂ d₂ f₂' => ?_
                    refine P.eq_str ?_
                    refine wpAny_truthy_bool ?_
                    show (if (sg.cps.toList == []) = true then _ else _)
                    have rz₂ : Ro L' s₁₄ z₂ := rz₁.eq f₂'
                    cases hs0 : (sg.cps.toList == []) with
                    | true => rw [if_pos rfl]; exact ⟨rfl, d₂, rz₂⟩
                    | false =>
                      rw [if_neg (by decide)]
                      refine isTrue_or (wpAny_isTrue_Compare1 ?_)
                      refine c_free d₂ rfl g1 d1' ?_
                      refine Subscript_ (c_name d₂ hch (c_name d₂ hpl (sign_item (by simp; omega) (seq_at hcc) ?_)))
                      have d₃ := d₂.ext (s' := { z₂ with toks := z₂.toks + 1 }) (fun _ _ e => e) rfl rfl
                      refine P.eq_str ?_
                      refine wpAny_truthy_bool ?_
                      show (if (sg.cps.toList == [cc]) = true then _ else _)
                      have rz₃ : Ro L' s₁₄ { z₂ with toks := z₂.toks + 1 } := rz₂.eq rfl
                      cases hs1' : (sg.cps.toList == [cc]) with
                      | true => rw [if_pos rfl]; exact ⟨rfl, d₃, rz₃⟩
                      | false =>
                        rw [if_neg (by decide)]
                        refine isTrue_or (wpAny_isTrue_Compare1 ?_)
                        refine c_free d₃ rfl g1 d1' ?_
                        refine Subscript_ (c_name d₃ hch (wpAny_BinOp (c_name d₃ hpl (c_intK d₃ fun z₄ u₄ d₄ f₄' => sub_int ?_))))
                        rw [show ((p : Nat) : Int) - 1 = ((p - 1 : Nat) : Int) by (exact om235 hat hp)]
                        refine sign_item (by simp; omega) (seq_at hbb) ?_
                        have d₅ := d₄.ext (s' := { z₄ with toks := z₄.toks + 1 + 1 }) (fun _ _ e => e) rfl rfl
                        refine P.eq_str ?_
                        refine wpAny_truthy_bool ?_
                        show (if (sg.cps.toList == [bb]) = true then _ else _)
                        have rz₅ : Ro L' s₁₄ { z₄ with toks := z₄.toks + 1 + 1 } := rz₃.eq f₄'
                        cases hs2' : (sg.cps.toList == [bb]) with
                        | true => rw [if_pos rfl]; exact ⟨rfl, d₅, rz₅⟩
                        | false =>
                          rw [if_neg (by decide)]
                          exact isTrue_or_nil ⟨rfl, d₅, rz₅⟩
                  · rintro b z₂ ⟨rfl, d₂, rz₂⟩
                    cases hB2 : (sg.cps.toList == [] || (sg.cps.toList == [cc] || sg.cps.toList == [bb])) with
                    | false =>
                      rw [if_neg (by decide)]
                      refine wpAny_execs_nil ?_
                      refine wpAny_execs_nil ?_
                      refine wpAny_execs_nil ?_
                      refine ⟨m₁, ⟨hch, fun k hk => ?_⟩, d₂, rz₂⟩
                      rcases Nat.lt_or_ge k j with h1 | h1
                      · exact hno k h1
                      · rw [show max at_ 1 + k = p by (exact om236 hp hk h1), hse, hB2]
                    | true =>
                      rw [if_pos rfl]
                      rw [hB2] at hse
                      refine wpAny_execs_cons ?_
                      refine wpAny_Return_some ?_
                      refine Call_ ?_
                      refine c_glob d₂ (v := .ref 203) ?_ ?_
                      · kernel_rfl
                      refine callWith_K (K := KK w) d₂.X (by kernel_rfl) ?_
                      refine spliced_more (c_name d₂ hpl (spliced_more (c_free d₂ rfl g2 d2' (spliced_none ?_))))
                      refine ⟨d₂.X, ?_⟩
                      refine hit_ok d₂.ok r'.deep.le (d₂.get (.head _)) (C₉.keep fun b o vs _ _ e => d₂.base e) fun s₂₁ v₂₁ ps₂₁ O₂₁ S₂₁ T₂₁ C₂₁ H₂₁ => ?_
                      refine hq s₂₁ _ ps₂₁ O₂₁ ((d₂.st.trans S₂₁).sub fun b hb => by simpa using hb) T₂₁ C₂₁ ?_
                      have hf : seamFrom sg.cps.toList x.cps.toList at_ = some p := by
                        unfold seamFrom
                        rw [firstSeam_at (q := j) (by assumption) hno (by rw [← hp]; exact hse), ← hp]
                      rw [hf]
                      exact ⟨v₂₁, rfl, H₂₁.mono (Nat.le_of_lt d₂.lt) (Nat.le_trans c₉.big (Nat.le_of_eq c₉.hL.symm))⟩
            · rintro m s₁₄ ⟨hm, hno⟩ c₁₄ ro₁₄
              refine wpAny_execs_nil ?_
              refine wpAny_execs_cons ?_
              refine wpAny_Return_some ?_
              refine wpAny_Constant_none ?_
              refine hq s₁₄ .none ps' c₁₄.ok c₁₄.st (c₁₄.get (.head _)) (C₉.keep fun b o vs _ _ e => c₁₄.base e) ?_
              have hf : seamFrom sg.cps.toList x.cps.toList at_ = none := by
                unfold seamFrom
                exact firstSeam_no fun k hk => hno k (by
                  have hxl : x.cps.toList.length = x.length := by rw [Array.length_toList]; rfl
                  assumption)
              rw [hf]
  · simp only [List.mem_cons, List.not_mem_nil, or_false] at hx
    rcases hx with rfl | rfl <;> exact .inr ⟨rfl, rfl⟩
  · exact cells_hab n q hq
end
end Mine
end

section
open PySem PySem.W PySem.Calls PyProof.Rows
set_option maxRecDepth 100000
set_option maxHeartbeats 8000000
namespace Mine
theorem firstSeam_some {sg x : List Nat} : ∀ {n p q : Nat}, firstSeam sg x n p = some q → p ≤ q ∧ q < p + n ∧ seam sg x q = true ∧ ∀ k, p ≤ k → k < q → seam sg x k = false
  | 0, _, _, h => by cases h
  | n + 1, p, q, h => by
    unfold firstSeam at h
    cases hs : seam sg x p with
    | true => rw [hs, if_pos rfl] at h; cases h; exact ⟨Nat.le_refl _, by (exact om237), hs, fun k h1 h2 => absurd h1 (by (exact Nat.not_le.mpr (by assumption)))⟩
    | false =>
      rw [hs, if_neg (by decide)] at h
      obtain ⟨a, b, c, d⟩ := firstSeam_some h
      refine ⟨by (exact Nat.le_of_lt (by assumption)), by (exact om238 b), c, fun k h1 h2 => ?_⟩
      rcases Nat.lt_or_ge p k with h3 | h3
      · exact d k h3 h2
      · have : k = p := by (exact om239 h1 h3)
        rw [this]; exact hs
theorem firstSeam_none {sg x : List Nat} : ∀ {n p : Nat}, firstSeam sg x n p = none → ∀ k, p ≤ k → k < p + n → seam sg x k = false
  | 0, p, _, k, h1, h2 => absurd h1 (by (exact Nat.not_le.mpr (by assumption)))
  | n + 1, p, h, k, h1, h2 => by
    unfold firstSeam at h
    cases hs : seam sg x p with
    | true => rw [hs, if_pos rfl] at h; cases h
    | false =>
      rw [hs, if_neg (by decide)] at h
      rcases Nat.lt_or_ge p k with h3 | h3
      · exact firstSeam_none h k h3 (by (exact om240 h2))
      · have : k = p := by (exact om239 h1 h3)
        rw [this]; exact hs
theorem seam_lt {sg x : List Nat} {p : Nat} (h : seam sg x p = true) : 1 ≤ p ∧ p < x.length := by
  unfold seam at h
  cases h1 : x[p]? with
  | none => rw [h1] at h; cases h
  | some c =>
    refine ⟨?_, (List.getElem?_eq_some_iff.mp h1).1⟩
    cases p with
    | zero =>
      rw [show (0 - 1 : Nat) = 0 from rfl, h1] at h
      dsimp only at h
      cases hw : isW c <;> rw [hw] at h <;> simp at h
    | succ p => (exact Nat.zero_lt_succ _)
noncomputable def lastBelow (sg x : List Nat) : Nat → Option Nat
  | 0 => none
  | n + 1 => if seam sg x n then some n else lastBelow sg x n
theorem lastBelow_some {sg x : List Nat} {p : Nat} (h : seam sg x p = true) : ∀ {n : Nat}, p < n → (∀ k, p < k → k < n → seam sg x k = false) → lastBelow sg x n = some p
  | 0, h1, _ => absurd h1 (Nat.not_lt_zero _)
  | n + 1, h1, h2 => by
    unfold lastBelow
    rcases Nat.lt_or_ge p n with h3 | h3
    · rw [h2 n h3 (Nat.lt_succ_self _), if_neg (by decide)]
      exact lastBelow_some h h3 fun k a b => h2 k a (by (exact Nat.le_succ_of_le (by assumption)))
    · have : p = n := by (exact om71 h1 h3)
      subst this
      rw [h, if_pos rfl]
theorem lastBelow_none {sg x : List Nat} : ∀ {n : Nat}, (∀ k, k < n → seam sg x k = false) → lastBelow sg x n = none
  | 0, _ => rfl
  | n + 1, h => by
    unfold lastBelow
    rw [h n (Nat.lt_succ_self _), if_neg (by decide)]
    exact lastBelow_none fun k a => h k (by (exact Nat.le_succ_of_le (by assumption)))
theorem lastBelow_cong {sg x : List Nat} {a b : Nat} (h : ∀ k, (a ≤ k ∧ k < b) ∨ (b ≤ k ∧ k < a) → seam sg x k = false) : lastBelow sg x a = lastBelow sg x b := by
  have key : ∀ n a, (∀ k, a ≤ k → k < a + n → seam sg x k = false) → lastBelow sg x (a + n) = lastBelow sg x a := by
    intro n
    induction n with
    | zero => intro a _; rfl
    | succ n ih =>
      intro a h
      show lastBelow sg x (a + n + 1) = _
      rw [lastBelow, h (a + n) (by (exact om241)) (by (exact Nat.lt_succ_self _)), if_neg (by decide)]
      exact ih a fun k h1 h2 => h k h1 (by (exact Nat.le_succ_of_le (by assumption)))
  rcases Nat.le_total a b with h1 | h1
  · have := key (b - a) a fun k h2 h3 => h k (.inl ⟨h2, by (exact om242 h1 h3)⟩)
    rw [show a + (b - a) = b by (exact om243 h1)] at this
    exact this.symm
  · have := key (a - b) b fun k h2 h3 => h k (.inr ⟨h2, by (exact om242 h1 h3)⟩)
    rwa [show b + (a - b) = a by (exact om243 h1)] at this
noncomputable def HitOr (w : World) (lo : Nat) (h : Heap) (z : Int) (o : Option Nat) (r : Value) : Prop := match o with
  | none => r = .none
  | some p => ∃ u, r = .ref u ∧ HitAt w lo h u p z
theorem HitOr.keep {w : World} {lo : Nat} {h h' : Heap} {z : Int} {o : Option Nat} {r : Value} (H : HitOr w lo h z o r) (k : Keep2 lo h h') : HitOr w lo h' z o r := by
  cases o with
  | none => exact H
  | some p => obtain ⟨u, e, H⟩ := H; exact ⟨u, e, H.keep k⟩
theorem HitOr.mono {w : World} {lo lo' : Nat} {h : Heap} {z : Int} {o : Option Nat} {r : Value} (H : HitOr w lo h z o r) (hl : lo' ≤ lo) (big : (221 : Nat) ≤ lo') : HitOr w lo' h z o r := by
  cases o with
  | none => exact H
  | some p => obtain ⟨u, e, H⟩ := H; exact ⟨u, e, H.mono hl big⟩
section
variable {w : World} {g : Heap} {ws : List Addr} {s₀ s s' : Shared} {L : Addr} {m : Str → Option Value} {news : List (Addr × Obj)}
theorem Cx.keepL (c : Cx w g ws s₀ L m news s) (k : ∀ b o, b ≠ L → s.heap.get? b = some o → s'.heap.get? b = some o) : Keep2 (s₀.heap.objs.size + 1) s.heap s'.heap := fun b o hb h e => k b o (by
  rcases h with ⟨h, _⟩ | ⟨vs, h⟩
  · rintro rfl
    have := c.hL
    exact absurd h (by rw [← this]; exact Nat.not_succ_le_self _)
  · exact c.neLf e h) e
theorem St.keep2 {lo : Nat} {ws : List Addr} (S : St ws s s') (hw : ∀ b ∈ ws, ¬ (221 : Nat) ≤ b) : Keep2 lo s.heap s'.heap := fun b o hb _ e => S.keep b o (fun q => hw b q hb) (not_tab hb) e
variable {A : Around} {E : Value → Shared → Prop} {cn : Str} {cs : Scope} {a : Addr} {ccd : Value} {cl : List (Str × Addr)}
theorem span_call {lo : Nat} {pos : Pos} {pl : Sem Bool} {env : Env} {u : Addr} {p z : Int} {Q : Value → Shared → Prop} (c : Cx w g ws s₀ L m news s) (hroom : A.depth < recursionLimit) (H : HitAt w lo s.heap u p z)
    (h : ∀ s' T t1 t2, Cx w g ws s₀ L m news s' → St [] s s' → s'.heap.get? T = some (tupObj #[.int p t1, .int (p + z) t2]) → s.heap.objs.size ≤ T → Q (.ref T) s') :
    wpAny (model PG w) A (getMethod (.ref u) "span" pl) (fun fx s₂ => wpAny (model PG w) A (callWith pos fx.1 fx.2 (backTo pos (starEach [] env)) []) Q E s₂) E s := by
  obtain ⟨⟨D, fd, lam, hh, tk, l1, l2, l3, e1, e2, ⟨fd', e3⟩, H⟩, big⟩ := H
  refine fn_method e1 e2 S.fn_span rfl ?_ ?_
  · rfl
  have c₂ := c.ext (s' := { s with toks := s.toks + 1 }) (fun _ _ e => e) rfl rfl
  refine callWith_F0 ⟨_, _, _, _, e3⟩ ?_
  refine H _ _ _ _ c₂.ok Keep2.refl hroom fun s' T t1 t2 O' S' eT hT => ?_
  exact h s' T t1 t2 (c₂.call0 S' O') ⟨S'.keep, S'.grow, S'.os⟩ eT hT
theorem pair_assign {xi xj : Str} {pi pj pt : Pos} {kt : Nat} {T : Addr} {v1 v2 : Value} {Q : Unit → Shared → Prop} (c : Cx w g ws s₀ L m news s) (hh : A.handled = none) (eT : s.heap.get? T = some (tupObj #[v1, v2]))
    (h : ∀ s', Cx w g ws s₀ L (fun y => if y = xj then some v2 else if y = xi then some v1 else m y) news s' → (∀ b o, b ≠ L → s.heap.get? b = some o → s'.heap.get? b = some o) → Q () s')
    (hk : cs.kind = .function := by rfl) (hxi : (envX cn cs L a ccd cl).kindOf xi = some .local := by rfl) (hxj : (envX cn cs L a ccd cl).kindOf xj = some .local := by rfl) :
    wpAny (model PG w) A (assign (.Tuple [.Name xi pi, .Name xj pj] kt pt) (envX cn cs L a ccd cl) (.ref T)) Q E s := by
  refine wpAny_assign_Tuple hh ⟨_, eT, rfl, _, rfl⟩ rfl rfl fun h₂ hx₂ => ?_
  have k₂ : ∀ b o, s.heap.get? b = some o → h₂.get? b = some o := fun b o e => hx₂ b o (Nat.ne_of_lt (Heap.lt_size e)) e
  have c₂ := c.ext (s' := { s with heap := h₂ }) k₂ rfl rfl
  show wpAny _ _ (do holding [_] (assign (.Name _ _) _ _); do holding [] (assign (.Name _ _) _ _); pure ()) _ _ _
  refine wpAny_bind (wpAny_holding (wpAny_assign_Name (c_storeK c₂ (fun s₃ c₃ k₃ => ?_) hk hxi)))
  refine wpAny_bind (wpAny_holding (wpAny_assign_Name (c_storeK c₃ (fun s₄ c₄ k₄ => wpAny_pure ?_) hk hxj)))
  exact h s₄ c₄ fun b o hb e => k₄ b o hb (k₃ b o hb (k₂ b o e))
theorem search_call {lo : Nat} {pos : Pos} {pl : Sem Bool} {env : Env} {e : Expr} {rest : List Expr} {v : Addr} {sg : Str} {z : Int} {Q : Value → Shared → Prop} (F : FinderAt w lo s.heap v sg z)
    (h : wpAny (model PG w) A (spliced (backTo pos (starEach (e :: rest) env))) (fun vs s₁ => ∃ x t at_ ps, s₁.heap = s.heap ∧ Ok w s₁ ∧ Rm A 6 ∧ s₁.heap.get? 198 = some (tabObj ps) ∧ CodesIn qH ps s₁.heap ∧ x.length ≤ 1000 ∧ at_ ≤ 2000 ∧ (vs = [.str x t] ∧ at_ = 0 ∨ ∃ ta, vs = [.str x t, .int (at_ : Nat) ta]) ∧
      ∀ s' r ps', Ok w s' → St [198] s₁ s' → s'.heap.get? 198 = some (tabObj ps') → CodesIn qH ps' s'.heap → HitOr w s₁.heap.objs.size s'.heap z (seamFrom sg.cps.toList x.cps.toList at_) r → Q r s') E { s with toks := s.toks + 1 })
    (he : starEach (e :: rest) env = (false, eval e env) :: starEach rest env := by rfl) (hplain : (backTo pos (starEach rest env)).any (·.1) = false := by rfl) :
    wpAny (model PG w) A (getMethod (.ref v) "search" pl) (fun fx s₂ => wpAny (model PG w) A (callWith pos fx.1 fx.2 (backTo pos (starEach (e :: rest) env)) []) Q E s₂) E s := by
  obtain ⟨⟨D, fd, srch, hh, tk, l1, l2, l3, e1, e2, ⟨fd', e3⟩, F⟩, big⟩ := F
  refine fn_method e1 e2 S.fn_search rfl ?_ ?_
  · rfl
  refine callWith_F (q := srch) ⟨_, _, _, _, e3⟩ (wpAny_mono h (fun vs s₁ h₁ => ?_) fun _ _ e => e) he hplain
  obtain ⟨x, t, at_, ps, q1, q2, q3, q4, q5, q6, q7, q8, q9⟩ := h₁
  refine ⟨⟨_, _, _, _, by rw [q1]; exact e3⟩, ?_⟩
  exact F A E Q s₁ x t vs at_ ps q2 q3 (by rw [q1]; exact Keep2.refl) q4 q5 q6 q7 q8 q9
end
end Mine
end

section
open PySem PySem.W PySem.Calls PyProof.Rows
set_option maxRecDepth 100000
set_option maxHeartbeats 8000000
namespace Mine
noncomputable def SrI (w : World) (g : Heap) (s : Shared) (L : Addr) (x sg : Str) (t tc : Tok) (z col : Int) (fdr : Addr) (n : Nat) (s' : Shared) : Prop :=
  ∃ p u F m ti tj ps', n = x.length - p ∧ m "m" = some (.ref u) ∧ m "prog" = some (.ref fdr) ∧ m "chars" = some (.str x t) ∧ m "col" = some (.int col tc) ∧ m "found" = some F ∧ m "i" = some (.int (p : Nat) ti) ∧ m "j" = some (.int ((p : Nat) + z) tj) ∧ HitAt w (s.heap.objs.size + 1) s'.heap u (p : Nat) z ∧ HitOr w (s.heap.objs.size + 1) s'.heap z (lastBelow sg.cps.toList x.cps.toList p) F ∧ seam sg.cps.toList x.cps.toList p = true ∧ (∀ k, k < p → seam sg.cps.toList x.cps.toList k = true → (k : Int) < col) ∧ Cx w g [198] s L m [(198, tabObj ps')] s' ∧ CodesIn qH ps' s'.heap
section
variable {w : World} {A : Around} {E : Value → Shared → Prop} {s : Shared} {Q : Value → Shared → Prop}
theorem srev_ok {lo : Nat} {fdr : Addr} {sg x : Str} {z col : Int} {t tc : Tok} {ps : Array Value} (O : Ok w s) (r : Rm A 8) (F : FinderAt w lo s.heap fdr sg z) (hz : z = 0 ∨ z = 1) (hT : s.heap.get? 198 = some (tabObj ps)) (C : CodesIn qH ps s.heap) (hx : x.length ≤ 1000)
    (h : ∀ s' r ps', Ok w s' → St [198] s s' → s'.heap.get? 198 = some (tabObj ps') → CodesIn qH ps' s'.heap → HitOr w s.heap.objs.size s'.heap z (lastBelow sg.cps.toList x.cps.toList col.toNat) r → Q r s') :
    wpAny (model PG w) A (call (.ref 189) [.ref fdr, .str x t, .int col tc]) Q E s := by
  have big : (221 : Nat) ≤ s.heap.objs.size := (base_of (own := []) O.gd no_own).2
  refine c_enterH (binds := [("prog", .ref fdr), ("chars", .str x t), ("col", .int col tc)]) [(198, tabObj ps)] O r.room (own213 hT) fun g L s₁ c => ?_
  have hL : s.heap.objs.size = L := c.hL
  have Fg : FinderAt w lo g fdr sg z := F.keep fun b o hb _ e => c.B.all b o (not213 hb) (not_tab hb) e
  have Cg : CodesIn qH ps g := C.keep fun b o vs hb _ e => c.B.all b o (not213 hb) (not_tab hb) e
  refine wpAny_execs_cons ?_
  refine wpAny_Assign_Name ?_
  refine MethodCall_ ?_
  refine c_name c rfl ?_
  refine search_call (sg := sg) (z := z) (Fg.keep (.of fun b o e => c.base e)) ?_
  have c₂ := c.ext (s' := { s₁ with toks := s₁.toks + 1 }) (fun _ _ e => e) rfl rfl
  refine spliced_more (c_name c₂ rfl (spliced_none ?_))
  refine ⟨x, t, 0, ps, rfl, c₂.ok, r.deep.le, c₂.get (.head _), Cg.keep fun b o vs _ _ e => c₂.base e, hx, by (exact Nat.zero_le _), .inl ⟨rfl, rfl⟩, fun s₃ rv ps₃ O₃ S₃ T₃ C₃ H₃ => ?_⟩
  have c₃ := c₂.call1 (Upd.head (fun _ h => nomatch h)) S₃ O₃ T₃
  have H₃' : HitOr w (s.heap.objs.size + 1) s₃.heap z (seamFrom sg.cps.toList x.cps.toList 0) rv := H₃.mono (Nat.succ_le_of_lt c.lt) (Nat.le_succ_of_le big)
  refine c_storeK c₃ fun s₄ c₄' k₄ => ?_
  obtain ⟨m₄, hm₄, c₄⟩ := c₄'.named
  have hm_m : m₄ "m" = some rv := by rw [hm₄]; exact if_pos rfl
  have hm_p : m₄ "prog" = some (.ref fdr) := by rw [hm₄]; rfl
  have hm_c : m₄ "chars" = some (.str x t) := by rw [hm₄]; rfl
  have hm_l : m₄ "col" = some (.int col tc) := by rw [hm₄]; rfl
  clear hm₄ c₄'
  have H₄ := H₃'.keep (c₃.keepL k₄)
  have C₄ : CodesIn qH ps₃ s₄.heap := C₃.keep fun b o vs _ hd e => k₄ b o (c₃.neLf e hd) e
  have hxl : x.cps.toList.length = x.length := by rw [Array.length_toList]; rfl
  refine wpAny_execs_cons ?_
  refine wpAny_If ?_
  refine isTrue_not ?_
  refine isTrue_plain ?_
  refine c_name c₄ hm_m ?_
  cases hsf : seamFrom sg.cps.toList x.cps.toList 0 with
  | none =>
    rw [hsf] at H₄
    have e : rv = .none := H₄
    subst e
    refine truthy_none ?_
    rw [if_pos (by decide)]
    refine wpAny_execs_cons ?_
    refine wpAny_Return_some ?_
    refine wpAny_Constant_none ?_
    refine h s₄ _ ps₃ c₄.ok c₄.st (c₄.get (.head _)) C₄ ?_
    rw [lastBelow_none fun k hk => ?_]
    · rfl
    · unfold seamFrom at hsf
      cases hs : seam sg.cps.toList x.cps.toList k with
      | false => rfl
      | true =>
        have h1 := seam_lt hs
        have := firstSeam_none hsf k (by (exact om244 hx hxl h1)) (by (exact om245 h1))
        rw [hs] at this; cases this
  | some p =>
    rw [hsf] at H₄
    obtain ⟨u, rfl, H₄⟩ := H₄
    have hfn := H₄.ex
    obtain ⟨D, fd, lam, hh, tk, l1, l2, l3, e1, e2, e3, _⟩ := hfn
    refine fn_true e1 ?_
    rw [if_neg (by decide)]
    refine wpAny_execs_nil ?_
    refine wpAny_execs_cons ?_
    refine wpAny_Assign_Name ?_
    refine wpAny_Constant_none ?_
    refine c_storeK c₄ fun s₅ c₅' k₅ => ?_
    obtain ⟨m₅, hm₅, c₅⟩ := c₅'.named
    have hm_m₅ : m₅ "m" = some (.ref u) := by rw [hm₅]; exact (if_neg (by decide)).trans hm_m
    have hm_p₅ : m₅ "prog" = some (.ref fdr) := by rw [hm₅]; exact (if_neg (by decide)).trans hm_p
    have hm_c₅ : m₅ "chars" = some (.str x t) := by rw [hm₅]; exact (if_neg (by decide)).trans hm_c
    have hm_l₅ : m₅ "col" = some (.int col tc) := by rw [hm₅]; exact (if_neg (by decide)).trans hm_l
    have hm_f₅ : m₅ "found" = some .none := by rw [hm₅]; exact if_pos rfl
    clear hm₅ c₅'
    have H₅ := H₄.keep (c₄.keepL k₅)
    have C₅ : CodesIn qH ps₃ s₅.heap := C₄.keep fun b o vs _ hd e => k₅ b o (c₄.neLf e hd) e
    refine wpAny_execs_cons ?_
    refine Assign_Tuple ?_
    refine MethodCall_ ?_
    refine c_name c₅ hm_m₅ ?_
    refine span_call c₅ (show A.depth + 1 < recursionLimit from r.room 1) H₅ fun s₆ T u1 u2 c₆ S₆ eT hT₆ => ?_
    refine pair_assign c₆ (by exact r.hd) eT fun s₇ c₇' k₇ => ?_
    have H₇ := (H₅.keep (S₆.keep2 fun _ h => nomatch h)).keep (c₆.keepL k₇)
    have C₇ : CodesIn qH ps₃ s₇.heap := (C₅.keep fun b o vs hb _ e => S₆.keep b o (fun h => nomatch h) (not_tab hb) e).keep fun b o vs _ hd e => k₇ b o (c₆.neLf e hd) e
    obtain ⟨m₇, hm₇, c₇⟩ := c₇'.named
    have hm_m₇ : m₇ "m" = some (.ref u) := by rw [hm₇]; exact (if_neg (by decide)).trans ((if_neg (by decide)).trans hm_m₅)
    have hm_p₇ : m₇ "prog" = some (.ref fdr) := by rw [hm₇]; exact (if_neg (by decide)).trans ((if_neg (by decide)).trans hm_p₅)
    have hm_c₇ : m₇ "chars" = some (.str x t) := by rw [hm₇]; exact (if_neg (by decide)).trans ((if_neg (by decide)).trans hm_c₅)
    have hm_l₇ : m₇ "col" = some (.int col tc) := by rw [hm₇]; exact (if_neg (by decide)).trans ((if_neg (by decide)).trans hm_l₅)
    have hm_f₇ : m₇ "found" = some .none := by rw [hm₇]; exact (if_neg (by decide)).trans ((if_neg (by decide)).trans hm_f₅)
    have hm_i₇ : m₇ "i" = some (.int p u1) := by rw [hm₇]; exact (if_neg (by decide)).trans (if_pos rfl)
    have hm_j₇ : m₇ "j" = some (.int (p + z) u2) := by rw [hm₇]; exact if_pos rfl
    clear hm₇ c₇'
    unfold seamFrom at hsf
    obtain ⟨q1, q2, q3, q4⟩ := firstSeam_some hsf
    have q5 := seam_lt q3
    have hno : ∀ k, k < p → seam sg.cps.toList x.cps.toList k = false := fun k hk => by
      cases hs : seam sg.cps.toList x.cps.toList k with
      | false => rfl
      | true =>
        have h1 := seam_lt hs
        have := q4 k (by (exact om246 q1 q2 h1)) hk
        rw [hs] at this; cases this
    refine wpAny_execs_cons ?_
    refine wpAny_mono (Q := fun fl s' => match fl with
      | .next => ∃ m F tf ps', m "found" = some F ∧ HitOr w (s.heap.objs.size + 1) s'.heap z (lastBelow sg.cps.toList x.cps.toList col.toNat) F ∧ Cx w g [198] s L m [(198, tabObj ps')] s' ∧ CodesIn qH ps' s'.heap ∧ tf = (0 : Nat)
      | _ => False) ?_ ?_ fun _ _ e => e
    · refine wpAny_While ?_
      refine codeAny_whileLoop (I := SrI w g s L x sg t tc z col fdr) (fun n s₈ hI => ?_) (x.length - p) ⟨p, u, .none, m₇, u1, u2, ps₃, rfl, hm_m₇, hm_p₇, hm_c₇, hm_l₇, hm_f₇, hm_i₇, hm_j₇, H₇, ?_, q3, ?_, c₇, C₇⟩
      · obtain ⟨p, u, F, m, ti, tj, ps', rfl, n_m, n_p, n_c, n_l, n_f, n_i, n_j, H, HF, hsp, hlt, c₈, C₈⟩ := hI
        have hsl := seam_lt hsp
        refine isTrue_and (wpAny_isTrue_Compare1 ?_)
        refine c_name c₈ n_i (c_name c₈ n_l (lt_int (wpAny_truthy_bool ?_)))
        by_cases hc : ((p : Nat) : Int) < col
        · rw [decide_eq_true hc, if_pos rfl]
          refine isTrue_and (wpAny_isTrue_Compare1 ?_)
          refine c_name c₈ n_j (c_name c₈ n_l (le_int (wpAny_truthy_bool ?_)))
          rw [decide_eq_true (show ((p : Nat) : Int) + z ≤ col by rcases hz with rfl | rfl <;> lia), if_pos rfl]
          refine isTrue_and_nil ?_
          rw [if_pos rfl]
          refine wpAny_execs_cons ?_
          refine wpAny_Assign_Name ?_
          refine c_name c₈ n_m ?_
          refine c_storeK c₈ fun s₉ c₉' k₉ => ?_
          obtain ⟨m₉, hm₉, c₉⟩ := c₉'.named
          have n_m₉ : m₉ "m" = some (.ref u) := by rw [hm₉]; exact (if_neg (by decide)).trans n_m
          have n_p₉ : m₉ "prog" = some (.ref fdr) := by rw [hm₉]; exact (if_neg (by decide)).trans n_p
          have n_c₉ : m₉ "chars" = some (.str x t) := by rw [hm₉]; exact (if_neg (by decide)).trans n_c
          have n_l₉ : m₉ "col" = some (.int col tc) := by rw [hm₉]; exact (if_neg (by decide)).trans n_l
          have n_f₉ : m₉ "found" = some (.ref u) := by rw [hm₉]; exact if_pos rfl
          have n_i₉ : m₉ "i" = some (.int (p : Nat) ti) := by rw [hm₉]; exact (if_neg (by decide)).trans n_i
          have n_j₉ : m₉ "j" = some (.int ((p : Nat) + z) tj) := by rw [hm₉]; exact (if_neg (by decide)).trans n_j
          clear hm₉ c₉'
          have H₉ := H.keep (c₈.keepL k₉)
          have C₉ : CodesIn qH ps' s₉.heap := C₈.keep fun b o vs _ hd e => k₉ b o (c₈.neLf e hd) e
          refine wpAny_execs_cons ?_
          refine wpAny_mono (Q := fun fl z' => match fl with
            | .next => ∃ m tj, m "m" = some (.ref u) ∧ m "prog" = some (.ref fdr) ∧ m "chars" = some (.str x t) ∧ m "col" = some (.int col tc) ∧ m "found" = some (.ref u) ∧ m "j" = some (.int ((p + 1 : Nat) : Int) tj) ∧ Cx w g [198] s L m [(198, tabObj ps')] z' ∧ Keep2 (s.heap.objs.size + 1) s₉.heap z'.heap
            | _ => False) ?_ ?_ fun _ _ e => e
          · refine wpAny_If (wpAny_isTrue_Compare1 ?_)
            refine c_name c₉ n_i₉ (c_name c₉ n_j₉ (eq_int (wpAny_truthy_bool ?_)))
            rcases hz with rfl | rfl
            · rw [show (((p : Nat) : Int) == ((p : Nat) : Int) + 0) = true from beq_iff_eq.mpr (by (exact om248)), if_pos rfl]
              refine wpAny_execs_cons ?_
              refine wpAny_Assign_Name ?_
              refine wpAny_BinOp (c_name c₉ n_j₉ (c_intK c₉ fun s₁₀ t₁₀ c₁₀ e₁₀ => PyProof.Rows.add_int ?_))
              have c₁₁ := c₁₀.ext (s' := { s₁₀ with toks := s₁₀.toks + 1 }) (fun _ _ e => e) rfl rfl
              refine c_storeK c₁₁ fun s₁₂ c₁₂ k₁₂ => ?_
              refine wpAny_execs_nil ?_
              refine ⟨_, s₁₀.toks, ?_, ?_, ?_, ?_, ?_, ?_, c₁₂, ?_⟩
              · exact (if_neg (by decide)).trans n_m₉
              · exact (if_neg (by decide)).trans n_p₉
              · exact (if_neg (by decide)).trans n_c₉
              · exact (if_neg (by decide)).trans n_l₉
              · exact (if_neg (by decide)).trans n_f₉
              · rw [show ((p + 1 : Nat) : Int) = ((p : Nat) : Int) + 0 + 1 by (exact om249)]
                exact if_pos rfl
              · exact e₁₀ ▸ c₁₁.keepL k₁₂
            · rw [show (((p : Nat) : Int) == ((p : Nat) : Int) + 1) = false from beq_eq_false_iff_ne.mpr (by (exact om250)), if_neg (by decide)]
              refine wpAny_execs_nil ?_
              exact ⟨m₉, tj, n_m₉, n_p₉, n_c₉, n_l₉, n_f₉, n_j₉, c₉, Keep2.refl⟩
          · intro fl z₁ hmid
            match fl, hmid with
            | .next, hm =>
              obtain ⟨m₁, tj₁, o_m, o_p, o_c, o_l, o_f, o_j, d₁, K₁⟩ := hm
              have H₁ := H₉.keep K₁
              have C₁ : CodesIn qH ps' z₁.heap := C₉.keep fun b o vs hb hd e => K₁ b o hb (.inr ⟨vs, hd⟩) e
              refine wpAny_execs_cons ?_
              refine wpAny_Assign_Name ?_
              refine MethodCall_ ?_
              refine c_name d₁ o_p ?_
              refine search_call (sg := sg) (z := z) (Fg.keep (.of fun b o e => d₁.base e)) ?_
              have d₂ := d₁.ext (s' := { z₁ with toks := z₁.toks + 1 }) (fun _ _ e => e) rfl rfl
              refine spliced_more (c_name d₂ o_c (spliced_more (c_name d₂ o_j (spliced_none ?_))))
              refine ⟨x, t, p + 1, ps', rfl, d₂.ok, r.deep.le, d₂.get (.head _), C₁, hx, by (exact om251 hx hxl hsl), .inr ⟨_, rfl⟩, fun z₃ rv ps₃ O₃ S₃ T₃ C₃ R₃ => ?_⟩
              have d₃ := d₂.call1 (Upd.head (fun _ h => nomatch h)) S₃ O₃ T₃
              have R₃' : HitOr w (s.heap.objs.size + 1) z₃.heap z (seamFrom sg.cps.toList x.cps.toList (p + 1)) rv := R₃.mono (Nat.succ_le_of_lt d₁.lt) (Nat.le_succ_of_le big)
              have H₃ := H₁.keep (h' := z₃.heap) (St.keep2 (s := { z₁ with toks := z₁.toks + 1 }) S₃ fun b hb => by rw [List.mem_singleton] at hb; subst hb; decide)
              refine c_storeK d₃ fun z₄ d₄' k₄ => ?_
              obtain ⟨m₄, hm₄, d₄⟩ := d₄'.named
              have p_m : m₄ "m" = some rv := by rw [hm₄]; exact if_pos rfl
              have p_p : m₄ "prog" = some (.ref fdr) := by rw [hm₄]; exact (if_neg (by decide)).trans o_p
              have p_c : m₄ "chars" = some (.str x t) := by rw [hm₄]; exact (if_neg (by decide)).trans o_c
              have p_l : m₄ "col" = some (.int col tc) := by rw [hm₄]; exact (if_neg (by decide)).trans o_l
              have p_f : m₄ "found" = some (.ref u) := by rw [hm₄]; exact (if_neg (by decide)).trans o_f
              clear hm₄ d₄'
              have H₄ := H₃.keep (d₃.keepL k₄)
              have R₄ := R₃'.keep (d₃.keepL k₄)
              have C₄ : CodesIn qH ps₃ z₄.heap := C₃.keep fun b o vs _ hd e => k₄ b o (d₃.neLf e hd) e
              refine wpAny_execs_cons ?_
              refine wpAny_If ?_
              refine isTrue_not ?_
              refine isTrue_plain ?_
              refine c_name d₄ p_m ?_
              cases hsf' : seamFrom sg.cps.toList x.cps.toList (p + 1) with
              | none =>
                rw [hsf'] at R₄
                have e : rv = .none := R₄
                subst e
                refine truthy_none ?_
                rw [if_pos (by decide)]
                refine wpAny_execs_cons ?_
                refine wpAny_Break ?_
                refine ⟨m₄, .ref u, 0, ps₃, p_f, ?_, d₄, C₄, rfl⟩
                rw [lastBelow_some hsp (by (exact om252 hx hxl hsl hc)) fun k h1 h2 => ?_]
                · exact ⟨u, rfl, H₄⟩
                · cases hs : seam sg.cps.toList x.cps.toList k with
                  | false => rfl
                  | true =>
                    have h3 := seam_lt hs
                    unfold seamFrom at hsf'
                    have := firstSeam_none hsf' k (by (exact om253 hsl h1)) (by (exact om254 h3))
                    rw [hs] at this; cases this
              | some p' =>
                rw [hsf'] at R₄
                obtain ⟨u', rfl, R₄⟩ := R₄
                have hfn' := R₄.ex
                obtain ⟨D', fd', lam', hh', tk', l1', l2', l3', e1', e2', e3', _⟩ := hfn'
                refine fn_true e1' ?_
                rw [if_neg (by decide)]
                refine wpAny_execs_nil ?_
                refine wpAny_execs_cons ?_
                refine Assign_Tuple ?_
                refine MethodCall_ ?_
                refine c_name d₄ p_m ?_
                refine span_call d₄ (show A.depth + 1 < recursionLimit from r.room 1) R₄ fun z₅ T v1 v2 d₅ S₅ eT hT₅ => ?_
                refine pair_assign d₅ (by exact r.hd) eT fun z₆ d₆ k₆ => ?_
                refine wpAny_execs_nil ?_
                unfold seamFrom at hsf'
                obtain ⟨w1, w2, w3, w4⟩ := firstSeam_some hsf'
                have w5 := seam_lt w3
                refine ⟨x.length - p', by (exact om255 hxl hsl w1 w5), p', u', .ref u, _, v1, v2, ps₃, rfl, ?_, ?_, ?_, ?_, ?_, ?_, ?_, (R₄.keep (S₅.keep2 fun _ h => nomatch h)).keep (d₅.keepL k₆), ?_, w3, fun k h1 h2 => ?_, d₆, (C₄.keep fun b o vs hb _ e => S₅.keep b o (fun h => nomatch h) (not_tab hb) e).keep fun b o vs _ hd e => k₆ b o (d₅.neLf e hd) e⟩
                · exact (if_neg (by decide)).trans ((if_neg (by decide)).trans p_m)
                · exact (if_neg (by decide)).trans ((if_neg (by decide)).trans p_p)
                · exact (if_neg (by decide)).trans ((if_neg (by decide)).trans p_c)
                · exact (if_neg (by decide)).trans ((if_neg (by decide)).trans p_l)
                · exact (if_neg (by decide)).trans ((if_neg (by decide)).trans p_f)
                · exact (if_neg (by decide)).trans (if_pos rfl)
                · exact if_pos rfl
                · rw [lastBelow_some hsp (by (exact om256 hsl w1 w2)) fun k h1 h2 => w4 k (by (exact om257 hsl w1 w2 h1)) h2]
                  exact ⟨u, rfl, (H₄.keep (S₅.keep2 fun _ h => nomatch h)).keep (d₅.keepL k₆)⟩
                · rcases Nat.lt_or_ge k p with h3 | h3
                  · exact hlt k h3 h2
                  · rcases Nat.eq_or_lt_of_le h3 with h4 | h4
                    · subst h4; exact hc
                    · have := w4 k (by (exact om257 hsl w1 w2 h4)) h1
                      rw [h2] at this; cases this
        · rw [decide_eq_false hc, if_neg (by decide)]
          rw [if_neg (by decide)]
          refine wpAny_execs_nil ?_
          refine ⟨m, F, 0, ps', n_f, ?_, c₈, C₈, rfl⟩
          rw [lastBelow_cong (a := col.toNat) (b := p) fun k hk => ?_]
          · exact HF
          · cases hs : seam sg.cps.toList x.cps.toList k with
            | false => rfl
            | true =>
              rcases hk with hk | hk
              · have := hlt k hk.2 hs
                (exact (om258 hk this).elim)
              · (exact (om259 hsl hc hk).elim)
      · rw [lastBelow_none fun k hk => hno k hk]
        rfl
      · intro k hk hs
        rw [hno k hk] at hs; cases hs
    · intro fl s' hmid
      match fl, hmid with
      | .next, hm =>
        obtain ⟨m, F, tf, ps', n_f, HF, c', C', _⟩ := hm
        refine wpAny_execs_cons ?_
        refine wpAny_Return_some ?_
        refine c_name c' n_f ?_
        exact h s' F ps' c'.ok c'.st (c'.get (.head _)) C' (HF.mono (Nat.le_succ _) big)
end
end Mine
end

section
open PySem PySem.W PySem.Calls PyProof.Rows
set_option maxRecDepth 100000
set_option maxHeartbeats 8000000
namespace Mine
theorem cut_drop {x : Str} {p : Nat} (h : p ≤ x.cps.toList.length) : Txt.slice x (some (p : Int)) none = ofL (x.cps.toList.drop p) := by
  have hl : x.cps.toList.length = x.length := by rw [Array.length_toList]; rfl
  have := slice_from_eq (x := x) (i := (p : Int)) (b := (x.length : Int)) (by (exact Int.natCast_nonneg _)) (by (exact om261 h hl)) rfl
  rw [this]
  unfold ofL
  rw [List.take_of_length_le (by rw [List.length_drop]; (exact om262 h hl))]
  simp
section
variable {w : World} {A : Around} {E : Value → Shared → Prop} {s : Shared} {Q : Value → Shared → Prop} {x : Str} {t : Tok}
theorem keptAll (h₀ : Heap) : KeptH fun h' => ∀ b o, h₀.get? b = some o → h'.get? b = some o := fun _ _ k b o e => Heap.get?_push_of_some _ (k b o e)
theorem s_from {value slice : Expr} {p : Nat} {uj : Tok} (hp : p ≤ x.cps.toList.length) (hx : x.length ≤ 1000) (h : ∀ h' t' k, (∀ b o, s.heap.get? b = some o → h'.get? b = some o) → Q (.str (ofL (x.cps.toList.drop p)) t') { s with heap := h', toks := k })
    (hs : subscripted slice false (.str x t) (.ref s.heap.objs.size) = operate [.ref s.heap.objs.size, .str x t] (getItem (.str x t) (.ref s.heap.objs.size)) := by with_unfolding_all rfl)
    (ht : ∀ r, letTemporaryGo value (.str x t) r = pure () := by intro _; with_unfolding_all rfl) :
    wpAny (model PG w) A (subscriptTail value slice (.str x t) (.ref s.heap.objs.size)) Q E { s with heap := s.heap.push { cls := .type "slice", data := .fields #[.int (p : Nat) uj, .none, .none] } } := by
  refine tail_of_ItemOn (SBH.sliceItem_sn (keptAll s.heap) (fun _ _ e => e) (fun h' t' k hk => ?_) (Nat.le_trans hx (by decide))) hs ht
  rw [cut_drop hp]
  exact h h' t' k hk
theorem is_none {v : Value} {Q : Value → Shared → Prop} (hv : v = .none ∨ ∃ a, v = .ref a) (h : Q (.bool (v == .none)) s) : wpAny (model PG w) A (compareOp .Is v .none) Q E s := by
  refine wpAny_is_plain ?_ h
  rcases hv with rfl | ⟨a, rfl⟩ <;> rfl
end
end Mine
end

section
open PySem PySem.W PySem.Calls PyProof.Rows
set_option maxRecDepth 100000
set_option maxHeartbeats 8000000
namespace Mine
noncomputable def pstep (st : List (List Nat × List Nat) × List Nat × List Nat) (c : Nat) : List (List Nat × List Nat) × List Nat × List Nat :=
  if isW c then (if st.2.2 = [] then (st.1, st.2.1 ++ [c], []) else (st.1 ++ [(st.2.1, st.2.2)], [c], [])) else (st.1, st.2.1, st.2.2 ++ [c])
noncomputable def joinP (w n : List Nat) (P : List (List Nat × List Nat)) : List (List Nat × List Nat) :=
  if n = [] then (match P with | [] => [(w, [])] | (w', n') :: r => (w ++ w', n') :: r)
  else match P with | [] => [(w, n)] | ([], n') :: r => (w, n ++ n') :: r | (w', n') :: r => (w, n) :: (w', n') :: r
theorem pstep_fold : ∀ (T : List Nat) (init : List (List Nat × List Nat)) (w n : List Nat), (T.foldl pstep (init, w, n)).1 ++ [((T.foldl pstep (init, w, n)).2.1, (T.foldl pstep (init, w, n)).2.2)] = init ++ joinP w n (pairs T)
  | [], init, w, n => by
    show init ++ [(w, n)] = init ++ joinP w n []
    unfold joinP
    by_cases h : n = []
    · rw [if_pos h, h]
    · rw [if_neg h]
  | c :: T, init, w, n => by
    rw [List.foldl_cons]
    unfold pairs
    cases hc : isW c with
    | true =>
      rw [if_pos rfl]
      by_cases h : n = []
      · subst h
        have e : pstep (init, w, []) c = (init, w ++ [c], []) := by unfold pstep; dsimp only; rw [hc, if_pos rfl, if_pos rfl]
        rw [e, pstep_fold T]
        congr 1
        unfold joinP
        rw [if_pos rfl, if_pos rfl]
        cases pairs T with
        | nil => rfl
        | cons p r => obtain ⟨w', n'⟩ := p; simp
      · have e : pstep (init, w, n) c = (init ++ [(w, n)], [c], []) := by unfold pstep; dsimp only; rw [hc, if_pos rfl, if_neg h]
        rw [e, pstep_fold T, List.append_assoc]
        congr 1
        unfold joinP
        rw [if_pos rfl, if_neg h]
        cases pairs T with
        | nil => rfl
        | cons p r => obtain ⟨w', n'⟩ := p; rfl
    | false =>
      rw [if_neg (by decide)]
      have e : pstep (init, w, n) c = (init, w, n ++ [c]) := by unfold pstep; dsimp only; rw [hc, if_neg (by decide)]
      rw [e, pstep_fold T]
      congr 1
      have hne : n ++ [c] ≠ [] := by simp
      unfold joinP
      rw [if_neg hne]
      by_cases h : n = []
      · subst h
        rw [if_pos rfl]
        cases pairs T with
        | nil => simp
        | cons p r => obtain ⟨w', n'⟩ := p; cases w' <;> simp
      · rw [if_neg h]
        cases pairs T with
        | nil => rfl
        | cons p r => obtain ⟨w', n'⟩ := p; cases w' <;> simp
theorem pieces_pairs {T : List Nat} (h : T ≠ []) : (T.foldl pstep ([], [], [])).1 ++ [((T.foldl pstep ([], [], [])).2.1, (T.foldl pstep ([], [], [])).2.2)] = pairs T := by
  rw [pstep_fold, List.nil_append]
  unfold joinP
  rw [if_pos rfl]
  cases e : pairs T with
  | nil => exact absurd (pairs_nil e) h
  | cons p r => rfl
section
variable {w : World} {A : Around} {E : Value → Shared → Prop} {s : Shared} {Q : Value → Shared → Prop}
theorem draw_list {it t : Addr} {items : Array Value} (hne : t ≠ it) : ∀ (n i : Nat) (s : Shared) (Q : List Value → Shared → Prop), s.heap.IsListIter it t i → s.heap.IsList t items → i + n ≤ items.size →
    (∀ h', h'.IsListIter it t (i + n) → Heap.SameBut it s.heap h' → Q ((items.toList.drop i).take n) { s with heap := h' }) → wpAny (model PG w) A (draw (.ref it) n) Q E s
  | 0, i, s, Q, hit, _, _, hQ => by
    show wpAny _ _ (pure []) Q E s
    exact wpAny_pure (by simpa using hQ s.heap hit (Heap.SameBut.refl ..))
  | n + 1, i, s, Q, hit, ht, hle, hQ => by
    have hlt : i < items.size := by (exact ol0 hle)
    show wpAny _ _ (pyNext (.ref it) >>= _) Q E s
    refine wpAny_bind (wpAny_pyNext_list_item hit ht (x := items[i]) (by simp [hlt]) fun h₁ hit₁ hs₁ => ?_)
    refine wpAny_bind (wpAny_holding (draw_list hne n (i + 1) _ _ hit₁ (ht.extBut hs₁.extBut hne) (by (exact ol1 hle)) fun h₂ hit₂ hs₂ => wpAny_pure ?_))
    have hd : items.toList.drop i = items[i] :: items.toList.drop (i + 1) := by simp [List.drop_eq_getElem_cons, hlt]
    have := hQ h₂ (by rw [show i + (n + 1) = i + 1 + n by (exact ol2)]; exact hit₂) (hs₁.trans hs₂)
    rw [hd, List.take_succ_cons] at this
    exact this
theorem unpack_list {t : Addr} {items : Array Value} {Q : List Value → Shared → Prop} (hh : A.handled = none) (ht : s.heap.IsList t items)
    (hQ : ∀ h', Heap.ExtBut s.heap.objs.size s.heap h' → Q items.toList { s with heap := h' }) : wpAny (model PG w) A (unpackItems (.ref t) items.size none) Q E s := by
  have hlt : t ≠ s.heap.objs.size := by obtain ⟨o, ho, _⟩ := ht; exact Nat.ne_of_lt (Heap.lt_size ho)
  have htp : Heap.IsList (s.heap.push { cls := .type "list_iterator", data := .fields #[.ref t, .int 0 0] }) t items := by
    obtain ⟨o, ho, r⟩ := ht; exact ⟨o, Heap.get?_push_of_some _ ho, r⟩
  unfold unpackItems
  refine wpAny_bind ?_
  unfold notIterableAtAll
  refine wpAny_bind (wpAny_specialOf ht.typeIs slot_list_iter.lookup ?_)
  refine wpAny_pure ?_
  simp only [Bool.false_eq_true, if_false]
  refine wpAny_bind (wpAny_holding (wpAny_pyIter_list ht ?_))
  refine wpAny_bind (wpAny_holding (draw_list hlt items.size 0 _ _ ⟨_, Heap.get?_push_size _ rfl, rfl, rfl⟩ htp (by (exact ol3)) fun h₁ hit₁ hs₁ => ?_))
  have hall : List.take items.size (List.drop 0 items.toList) = items.toList := by
    rw [List.drop_zero]; exact List.take_of_length_le (by simp)
  rw [hall]
  rw [if_neg (by simp)]
  have ht₁ : h₁.IsList t items := htp.extBut hs₁.extBut hlt
  refine wpAny_bind (wpAny_holding (wpAny_pyNext_list_end hh hit₁ ht₁ (by simp) fun h₂ he₂ => ?_))
  simp only [Option.isSome_none, Bool.false_eq_true, if_false]
  refine wpAny_pure (hQ h₂ fun b o hb e => he₂ b o hb (hs₁.extBut b o hb (Heap.get?_push_of_some _ e)))
theorem assign_list {env : Env} {elts : List Expr} {x1} {pos : Pos} {t : Addr} {items : Array Value} {Q : Unit → Shared → Prop} (hh : A.handled = none) (ht : s.heap.IsList t items)
    (hn : (assignEach elts env).length = items.size) (hstar : (assignEach elts env).findIdx? (·.1) = none)
    (h : ∀ h', Heap.ExtBut s.heap.objs.size s.heap h' → wpAny (model PG w) A (assignInOrder ((assignEach elts env).map (·.2)) items.toList) Q E { s with heap := h' }) :
    wpAny (model PG w) A (assign (.Tuple elts x1 pos) env (.ref t)) Q E s := by
  rw [arm_assign_Tuple]
  refine wpAny_bind (wpAny_standAt ?_)
  unfold unpack
  rw [hn, hstar]
  exact wpAny_bind (wpAny_holding (unpack_list hh ht h))
end
section
variable {w : World} {A : Around} {E : Value → Shared → Prop} {s : Shared} {g : Heap} {ws : List Addr} {s₀ : Shared} {L : Addr} {m : Str → Option Value} {news : List (Addr × Obj)} {cn : Str} {cs : Scope} {a : Addr} {ccd : Value} {cl : List (Str × Addr)}
theorem list_assign {xi xj : Str} {pi pj pt : Pos} {kt : Nat} {T : Addr} {v1 v2 : Value} {Q : Unit → Shared → Prop} (c : Cx w g ws s₀ L m news s) (hh : A.handled = none) (eT : s.heap.IsList T #[v1, v2])
    (h : ∀ s', Cx w g ws s₀ L (fun y => if y = xj then some v2 else if y = xi then some v1 else m y) news s' → (∀ b o, b ≠ L → s.heap.get? b = some o → s'.heap.get? b = some o) → Q () s')
    (hk : cs.kind = .function := by rfl) (hxi : (envX cn cs L a ccd cl).kindOf xi = some .local := by rfl) (hxj : (envX cn cs L a ccd cl).kindOf xj = some .local := by rfl) :
    wpAny (model PG w) A (assign (.Tuple [.Name xi pi, .Name xj pj] kt pt) (envX cn cs L a ccd cl) (.ref T)) Q E s := by
  refine assign_list (items := #[v1, v2]) hh eT rfl rfl fun h₂ hx₂ => ?_
  have k₂ : ∀ b o, s.heap.get? b = some o → h₂.get? b = some o := fun b o e => hx₂ b o (Nat.ne_of_lt (Heap.lt_size e)) e
  have c₂ := c.ext (s' := { s with heap := h₂ }) k₂ rfl rfl
  show wpAny _ _ (do holding [_] (assign (.Name _ _) _ _); do holding [] (assign (.Name _ _) _ _); pure ()) _ _ _
  refine wpAny_bind (wpAny_holding (wpAny_assign_Name (c_storeK c₂ (fun s₃ c₃ k₃ => ?_) hk hxi)))
  refine wpAny_bind (wpAny_holding (wpAny_assign_Name (c_storeK c₃ (fun s₄ c₄ k₄ => wpAny_pure ?_) hk hxj)))
  exact h s₄ c₄ fun b o hb e => k₄ b o hb (k₃ b o hb (k₂ b o e))
theorem last_item {value slice : Expr} {l : Addr} {its : Array Value} {u : Tok} {v : Value} {Q : Value → Shared → Prop} (ht : s.heap.IsList l its) (hv : its.toList.getLast? = some v) (h : Q v s)
    (hs : subscripted slice false (.ref l) (.int (-1) u) = operate [.ref l, .int (-1) u] (getItem (.ref l) (.int (-1) u)) := by with_unfolding_all rfl) : wpAny (model PG w) A (subscriptTail value slice (.ref l) (.int (-1) u)) Q E s := by
  have hsz : 0 < its.size := by
    rw [← Array.length_toList]
    cases e : its.toList with
    | nil => rw [e] at hv; cases hv
    | cons a b => simp
  refine tail_builtin ht.typeIs slot_list_getitem.lookup (wpAny_getItem_list_neg ht (by decide) (by (exact ol4 hsz)) (by decide) ?_ h) hs
  rw [List.getLast?_eq_getElem?] at hv
  rw [← Array.getElem?_toList, show ((-1 : Int) + (its.size : Nat)).toNat = its.toList.length - 1 by rw [Array.length_toList]; (exact ol5 hsz)]
  exact hv
theorem nth_item {value slice : Expr} {l : Addr} {its : Array Value} {k : Nat} {u : Tok} {v : Value} {Q : Value → Shared → Prop} (ht : s.heap.IsList l its) (hk : (k : Int) < 2 ^ 63) (hv : its[k]? = some v) (h : Q v s)
    (hs : subscripted slice false (.ref l) (.int (k : Nat) u) = operate [.ref l, .int (k : Nat) u] (getItem (.ref l) (.int (k : Nat) u)) := by with_unfolding_all rfl) : wpAny (model PG w) A (subscriptTail value slice (.ref l) (.int (k : Nat) u)) Q E s := by
  exact tail_builtin ht.typeIs slot_list_getitem.lookup (wpAny_getItem_list ht (Int.natCast_nonneg _) hk (by simpa using hv) h) hs
end
end Mine
end

section
open PySem PySem.W PySem.Calls PyProof.Rows
set_option maxRecDepth 100000
set_option maxHeartbeats 8000000
namespace Mine
noncomputable def LO (its : Array Value) (o : Obj) : Prop := o.cls = .type "list" ∧ ∃ n, o.data = .seq its n
theorem LO.at_ {its : Array Value} {o : Obj} {h : Heap} {a : Addr} (x : LO its o) (e : h.get? a = some o) : h.IsList a its := ⟨o, e, x.1, x.2⟩
theorem lo_list {its : Array Value} {n : Nat} : LO its (listObj its n) := ⟨rfl, n, rfl⟩
section
variable {w : World} {A : Around} {g : Heap} {ws : List Addr} {s₀ s : Shared} {L I : Addr} {m : Str → Option Value} {news : List (Addr × Obj)}
theorem r_forG {R : Result → Shared → Prop} {target : Expr} {body orelse : List Stmt} {env : Env} {n : Nat} {P : Nat → Value → Prop} {fp : List Addr} {S : Nat → Heap → Prop} (W : Walks PG w A I fp [I] n P S)
    (hI : (221 : Nat) ≤ I) (hgI : g.get? I = none) (hLI : L ≠ I) (J : Nat → (Str → Option Value) → List (Addr × Obj) → Heap → Prop)
    (hJ : ∀ j m news h h', J j m news h → (∀ b o, b ≠ I → h.get? b = some o → h'.get? b = some o) → J j m news h')
    (turn : ∀ j v m news s, j < n → J j m news s.heap → Cx w g ws s₀ L m news s → (∀ p ∈ news, p.1 ≠ I) → P j v → S (j + 1) s.heap → wpAny (model PG w) A (assign target env v) (fun _ s₂ => wpAny (model PG w) A (execs body env) (fun f s₃ => match f with
        | .next | .cont => ∃ m' news', J (j + 1) m' news' s₃.heap ∧ Cx w g ws s₀ L m' news' s₃ ∧ (∀ p ∈ news', p.1 ≠ I) ∧ (∀ b ∈ fp, ∀ o, s.heap.get? b = some o → s₃.heap.get? b = some o)
        | .brk => R (.ok .next) s₃
        | .ret v => R (.ok (.ret v)) s₃) (notedBy (model PG w) A env fun e s' => R (.error e) s') s₂) (notedBy (model PG w) A env fun e s' => R (.error e) s') s)
    (done : ∀ m news s, J n m news s.heap → Cx w g ws s₀ L m news s → wpAny (model PG w) A (execs orelse env) (fun f s₃ => R (.ok f) s₃) (notedBy (model PG w) A env fun e s' => R (.error e) s') s)
    (c : Cx w g ws s₀ L m news s) (h0 : J 0 m news s.heap) (hnI : ∀ p ∈ news, p.1 ≠ I) (hS : S 0 s.heap) (ht : ∀ v, letOwnedTupleGo target (.ref I) v = pure () := by intro _; rfl) :
    codeAny (model PG w) A (.forLoop target (.ref I) body orelse env) R s := by
  refine codeAny_forLoop (I := fun k s => ∃ j m news, k = n - j ∧ j ≤ n ∧ J j m news s.heap ∧ Cx w g ws s₀ L m news s ∧ (∀ p ∈ news, p.1 ≠ I) ∧ S j s.heap) (fun k s hk => ?_) n ⟨0, m, news, rfl, Nat.zero_le _, h0, c, hnI, hS⟩ ht
  obtain ⟨j, m, news, rfl, hj, hJJ, c, hnI, hS⟩ := hk
  rcases Nat.lt_or_ge j n with hlt | hge
  · refine W.item j s _ _ hlt hS fun v h' tk hP hS' k => ?_
    have k' : ∀ b o, b ≠ I → s.heap.get? b = some o → h'.get? b = some o := fun b o hb e => k b o (by simpa using hb) e
    have c' := c.turn (tk := tk) hI hgI hLI hnI k'
    refine wpAny_mono (turn j v m news _ hlt (hJ _ _ _ _ h' hJJ k') c' hnI hP hS') (fun _ s₂ h₂ => wpAny_mono h₂ (fun f s₃ h₃ => ?_) fun _ _ e => e) fun _ _ e => e
    cases f with
    | next => obtain ⟨m', news', hJ', c₃, n₃, r₃⟩ := h₃; exact ⟨n - (j + 1), by (exact ol6 hlt), j + 1, m', news', rfl, hlt, hJ', c₃, n₃, W.frame _ _ _ hS' fun b hb o e => r₃ b hb o e⟩
    | cont => obtain ⟨m', news', hJ', c₃, n₃, r₃⟩ := h₃; exact ⟨n - (j + 1), by (exact ol6 hlt), j + 1, m', news', rfl, hlt, hJ', c₃, n₃, W.frame _ _ _ hS' fun b hb o e => r₃ b hb o e⟩
    | brk => exact h₃
    | ret v => exact h₃
  · have : j = n := Nat.le_antisymm hj hge
    subst this
    refine W.done s _ _ hS fun h' tk k => ?_
    have k' : ∀ b o, b ≠ I → s.heap.get? b = some o → h'.get? b = some o := fun b o hb e => k b o (by simpa using hb) e
    exact done m news _ (hJ _ _ _ _ h' hJJ k') (c.turn (tk := tk) hI hgI hLI hnI k')
end
theorem pyIter_str {w : World} {A : Around} {E : Value → Shared → Prop} {s : Shared} {x : Str} {t : Tok} {Q : Value → Shared → Prop}
    (hQ : ∀ (o : Obj) (St : Nat → Heap → Prop), (∀ A' : Around, A'.handled = none → Walks PG w A' s.heap.objs.size [s.heap.objs.size] [s.heap.objs.size] x.cps.size (SignAt x) St) → (∀ i h, St i h → ∃ o, h.get? s.heap.objs.size = some o) → St 0 (s.heap.push o) →
      Q (.ref s.heap.objs.size) { s with heap := s.heap.push o }) : wpAny (model PG w) A (pyIter (.str x t)) Q E s := by
  cases ha : x.cps.all (· < 128)
  · exact wpAny_pyIter_wide ha (hQ _ _ (fun A' hA => Walks.strWide hA _ x t) (fun _ _ h => let ⟨o, e, _⟩ := h; ⟨o, e⟩) ⟨_, Heap.get?_push_size _ rfl, rfl, rfl⟩)
  · exact wpAny_pyIter_ascii ha (hQ _ _ (fun A' hA => Walks.strAscii hA _ x t) (fun _ _ h => let ⟨o, e, _⟩ := h; ⟨o, e⟩) ⟨_, Heap.get?_push_size _ rfl, rfl, rfl⟩)
noncomputable def PcsAt (ok : Addr → Prop) (h : Heap) (rs : List Value) (ps : List (List Nat × List Nat)) : Prop :=
  rs.length = ps.length ∧ ∀ (k : Nat) (p : List Nat × List Nat), ps[k]? = some p → ∃ R t1 t2, rs[k]? = some (Value.ref R) ∧ ok R ∧ h.IsList R #[.str (ofL p.1) t1, .str (ofL p.2) t2]
theorem PcsAt.keep {ok : Addr → Prop} {h h' : Heap} {rs : List Value} {ps : List (List Nat × List Nat)} (P : PcsAt ok h rs ps) (k : ∀ b o, ok b → h.get? b = some o → h'.get? b = some o) : PcsAt ok h' rs ps :=
  ⟨P.1, fun j p e => let ⟨R, t1, t2, e1, e2, ⟨o, eo, r⟩⟩ := P.2 j p e; ⟨R, t1, t2, e1, e2, ⟨o, k R o e2 eo, r⟩⟩⟩
theorem PcsAt.mono {ok ok' : Addr → Prop} {h : Heap} {rs : List Value} {ps : List (List Nat × List Nat)} (P : PcsAt ok h rs ps) (k : ∀ b, ok b → (∃ o, h.get? b = some o) → ok' b) : PcsAt ok' h rs ps :=
  ⟨P.1, fun j p e => let ⟨R, t1, t2, e1, e2, ⟨o, eo, r⟩⟩ := P.2 j p e; ⟨R, t1, t2, e1, k _ e2 ⟨o, eo⟩, o, eo, r⟩⟩
theorem PcsAt.snoc {ok : Addr → Prop} {h : Heap} {rs : List Value} {ps : List (List Nat × List Nat)} (P : PcsAt ok h rs ps) {R : Addr} {w n : List Nat} {t1 t2 : Tok} (hR : ok R) (e : h.IsList R #[.str (ofL w) t1, .str (ofL n) t2]) : PcsAt ok h (rs ++ [Value.ref R]) (ps ++ [(w, n)]) := by
  refine ⟨by simp [P.1], fun k p hk => ?_⟩
  rcases Nat.lt_trichotomy k ps.length with q | q | q
  · rw [List.getElem?_append_left q] at hk
    obtain ⟨R', u1, u2, e1, r⟩ := P.2 k p hk
    exact ⟨R', u1, u2, by rw [List.getElem?_append_left (by rw [P.1]; exact q)]; exact e1, r⟩
  · subst q
    rw [List.getElem?_append_right (Nat.le_refl _), Nat.sub_self] at hk
    cases hk
    exact ⟨R, t1, t2, by rw [← P.1, List.getElem?_append_right (Nat.le_refl _), Nat.sub_self]; rfl, hR, e⟩
  · have : (ps ++ [(w, n)])[k]? = none := List.getElem?_eq_none (by simp; assumption)
    rw [this] at hk; cases hk
theorem c_listK {w : World} {A : Around} {E : Value → Shared → Prop} {s : Shared} {Q : Value → Shared → Prop} {g : Heap} {ws : List Addr} {s₀ : Shared} {L : Addr} {m : Str → Option Value} {news : List (Addr × Obj)} {vs : List Value} (c : Cx w g ws s₀ L m news s) (h : ∀ s' t, Cx w g ws s₀ L m ((t, listObj vs.toArray 0) :: news) s' → (s.heap.objs.size : Nat) = t → (∀ b o, s.heap.get? b = some o → s'.heap.get? b = some o) → Q (.ref t) s') (hsz : vs.length ≤ 1000) :
    wpAny (model PG w) A (newList vs) Q E s :=
  wpAny_newObj_type (h _ _ (Cx.new (c.ext (s' := { s with heap := s.heap.push (listObj vs.toArray 0) }) (fun _ _ e => Heap.get?_push_of_some _ e) rfl rfl) (Heap.get?_push_size _ rfl) c.lt) rfl fun _ _ e => Heap.get?_push_of_some _ e) (by show vs.toArray.size ≤ sizeLine; rw [List.size_toArray]; exact Nat.le_trans hsz (by decide))
noncomputable def PcI (T : List Nat) (lo L l I : Addr) (j : Nat) (m : Str → Option Value) (news : List (Addr × Obj)) (h : Heap) : Prop :=
  ∃ init wh nn rs R oR ol t1 t2, (T.take j).foldl pstep ([], [], []) = (init, wh, nn) ∧ m "pieces" = some (.ref l) ∧ news = [(R, oR), (l, ol)] ∧ LO #[.str (ofL wh) t1, .str (ofL nn) t2] oR ∧ (∃ kl, ol = listObj (rs ++ [Value.ref R]).toArray kl) ∧
    PcsAt (fun b => lo ≤ b ∧ b ≠ R ∧ b ≠ l ∧ b ≠ L ∧ b ≠ I) h rs init ∧ R ≠ l ∧ lo ≤ R ∧ init.length + wh.length + nn.length ≤ j
end Mine
end

section
open PySem PySem.W PySem.Calls PyProof.Rows
set_option maxRecDepth 100000
set_option maxHeartbeats 8000000
namespace Mine
theorem keep2_but {lo : Nat} {h h' : Heap} {b0 : Addr} (hlo : b0 < lo) (hnc : ∀ o vs, h.get? b0 = some o → ¬ CodeD o vs) (k : ∀ b o, b ≠ b0 → h.get? b = some o → h'.get? b = some o) : Keep2 lo h h' := fun b o _ hor e => k b o (by
  rintro rfl
  rcases hor with ⟨q, _⟩ | ⟨vs, q⟩
  · exact absurd hlo (Nat.not_lt.mpr q)
  · exact hnc o vs e q) e
noncomputable def KeepX (L I C D : Addr) (h h' : Heap) : Prop := ∀ b o, (221 : Nat) ≤ b → ((b ≠ I ∧ b ≠ C ∧ b ≠ D ∧ b ≠ L) ∨ ∃ vs, CodeD o vs) → h.get? b = some o → h'.get? b = some o
theorem KeepX.of {L I C D : Addr} {h h' : Heap} (k : ∀ b o, h.get? b = some o → h'.get? b = some o) : KeepX L I C D h h' := fun b o _ _ e => k b o e
theorem keepx_but {L I C D b0 : Addr} {h h' : Heap} (hb0 : b0 = I ∨ b0 = C ∨ b0 = D ∨ b0 = L) (hnc : ∀ o vs, h.get? b0 = some o → ¬ CodeD o vs) (k : ∀ b o, b ≠ b0 → h.get? b = some o → h'.get? b = some o) : KeepX L I C D h h' := fun b o _ hor e => k b o (by
  rintro rfl
  rcases hor with ⟨q1, q2, q3, q4⟩ | ⟨vs, q⟩
  · rcases hb0 with q | q | q | q
    · exact q1 q
    · exact q2 q
    · exact q3 q
    · exact q4 q
  · exact hnc o vs e q) e
theorem KeepX.keep2 {L I C D : Addr} {lo : Nat} {h h' : Heap} (K : KeepX L I C D h h') (h1 : I < lo) (h2 : C < lo) (h3 : D < lo) (h4 : L < lo) : Keep2 lo h h' := fun b o hb hor e => K b o hb (hor.imp (fun q => ⟨fun x => absurd h1 (by rw [← x]; exact Nat.not_lt.mpr q.1), fun x => absurd h2 (by rw [← x]; exact Nat.not_lt.mpr q.1), fun x => absurd h3 (by rw [← x]; exact Nat.not_lt.mpr q.1), fun x => absurd h4 (by rw [← x]; exact Nat.not_lt.mpr q.1)⟩) id) e
theorem ns_noCode {h : Heap} {a : Addr} {m : Str → Option Value} (n : h.Ns a m) : ∀ o vs, h.get? a = some o → ¬ CodeD o vs := fun o vs e c => by
  obtain ⟨o', es, ep, e', hd, _⟩ := n
  rw [e] at e'; cases e'; rw [c.1] at hd; cases hd
theorem list_noCode {h : Heap} {a : Addr} {its : Array Value} {n : Nat} (e' : h.get? a = some (listObj its n)) : ∀ o vs, h.get? a = some o → ¬ CodeD o vs := fun o vs e c => by
  rw [e'] at e; cases e; cases c.1
section
variable {w : World} {A : Around} {E : Value → Shared → Prop} {s : Shared} {g : Heap} {ws : List Addr} {s₀ : Shared} {L : Addr} {m : Str → Option Value} {news : List (Addr × Obj)} {cn : Str} {cs : Scope} {a : Addr} {ccd : Value} {cl : List (Str × Addr)}
theorem Cx.more (c : Cx w g ws s₀ L m news s) {b : Addr} {o : Obj} (e : s.heap.get? b = some o) (h1 : b ≠ L) (h2 : g.get? b = none) (h3 : Hi b) : Cx w g ws s₀ L m ((b, o) :: news) s :=
  ⟨c.B, c.big, c.hL, c.F, fun p hp => by cases hp with | head => exact ⟨e, h1, h2⟩ | tail _ hp => exact c.N p hp, c.T, c.bare, c.os, fun p hp => by cases hp with | head => exact h3 | tail _ hp => exact c.hi p hp⟩
theorem Cx.swap {b : Addr} {o o' : Obj} {h' : Heap} {tk : Nat} (c : Cx w g ws s₀ L m ((b, o) :: news) s) (hb : (221 : Nat) ≤ b) (hn : ∀ p ∈ news, p.1 ≠ b) (k : ∀ x ox, x ≠ b → s.heap.get? x = some ox → h'.get? x = some ox) (e : h'.get? b = some o') : Cx w g ws s₀ L m ((b, o') :: news) { s with heap := h', toks := tk } := by
  have z := (c.N (b, o) (.head _)).2
  have c' : Cx w g ws s₀ L m news s := c.drop fun p hp => .tail _ hp
  have c'' := c'.turnW (wr := [b]) (h' := h') (tk := tk) (fun x hx => by rw [List.mem_singleton] at hx; subst hx; exact ⟨hb, z.2, Ne.symm z.1⟩) (fun p hp q => hn p hp (List.mem_singleton.mp q)) fun x ox hx e => k x ox (fun q => hx (by rw [q]; exact .head _)) e
  exact c''.more e z.1 z.2 (.inl hb)
end
noncomputable def Off (I C D : Addr) (news : List (Addr × Obj)) : Prop := ∀ p ∈ news, p.1 ≠ I ∧ p.1 ≠ C ∧ p.1 ≠ D
section
variable {w : World} {A : Around} {E : Value → Shared → Prop} {s : Shared} {g : Heap} {ws : List Addr} {s₀ : Shared} {L : Addr} {cn : Str} {cs : Scope} {a : Addr} {ccd : Value} {cl : List (Str × Addr)}
structure CompB (w : World) (A : Around) (g : Heap) (ws : List Addr) (s₀ : Shared) (L : Addr) (env : Env) (scope : Scope) (cl' : List (Str × Addr)) (x y : Str) (ifs : List Expr) (elt : Expr) (Q : Flow → Shared → Prop) (m : Str → Option Value) (I : Addr) (oI : Obj) (fp : List Addr) (n : Nat) (P : Nat → Value → Prop) (St : Nat → Heap → Prop) (news : List (Addr × Obj)) (J : Nat → List Value → List (Addr × Obj) → Heap → Prop) (s₂ : Shared) : Prop where
  W : Walks PG w A I fp [I] n P St
  hn : n ≤ 100000
  live : ∀ i h, St i h → ∃ o, h.get? I = some o ∧ ∀ vs, ¬ CodeD o vs
  st : St 0 s₂.heap
  fpl : ∀ b ∈ fp, b < s₂.heap.objs.size
  c : Cx w g ws s₀ L m ((I, oI) :: news) s₂
  hI : (221 : Nat) ≤ I
  off : ∀ p ∈ news, p.1 ≠ I
  j0 : J 0 [] news s₂.heap
  jk : ∀ i ys news h h', J i ys news h → KeepX L I (s₂.heap.objs.size + 1) s₂.heap.objs.size h h' → J i ys news h'
  turn : ∀ C D i v ys k oI oC m₂ news s₃ (E' : Value → Shared → Prop), C = s₂.heap.objs.size + 1 → D = s₂.heap.objs.size → i < n → P i v → J i ys news s₃.heap → Cx w g ws s₀ L m ((I, oI) :: (C, oC) :: (D, listObj ys.toArray k) :: news) s₃ → s₃.heap.Ns C m₂ → m₂ x = some v → Off I C D news → ys.length ≤ i →
    wpAny (model PG w) A (forIn ifs true fun c r => if r = true then do let ok ← isTrue c (compEnvC scope cl' C env) (eval c (compEnvC scope cl' C env)); pure (ForInStep.yield ok) else pure (ForInStep.yield r))
      (fun ok s₄ => if ok = true then wpAny (model PG w) A (eval elt (compEnvC scope cl' C env)) (fun v' s₅ => ∃ news', J (i + 1) (ys ++ [v']) news' s₅.heap ∧ Cx w g ws s₀ L m ((I, oI) :: (C, oC) :: (D, listObj ys.toArray k) :: news') s₅ ∧ Off I C D news' ∧ (∀ b ∈ fp, ∀ o, s₃.heap.get? b = some o → s₅.heap.get? b = some o)) E' s₄
        else ∃ news', J (i + 1) ys news' s₄.heap ∧ Cx w g ws s₀ L m ((I, oI) :: (C, oC) :: (D, listObj ys.toArray k) :: news') s₄ ∧ Off I C D news' ∧ (∀ b ∈ fp, ∀ o, s₃.heap.get? b = some o → s₄.heap.get? b = some o)) E' s₃
  fin : ∀ D k ys news s₃, J n ys news s₃.heap → s₂.heap.objs.size ≤ D → Cx w g ws s₀ L (fun z => if z = y then some (.ref D) else m z) ((D, listObj ys.toArray k) :: news) s₃ → (∀ p ∈ news, p.1 ≠ D) → Q .next s₃
theorem c_comp {elt iter : Expr} {x y : Str} {px py : Pos} {ifs : List Expr} {scope : Scope} {cl' : List (Str × Addr)} {pos spos : Pos} {Q : Flow → Shared → Prop}
    (h : wpAny (model PG w) A (eval iter (envX cn cs L a ccd cl)) (fun xv s₁ => wpAny (model PG w) A (pyIter xv) (fun it s₂ => ∃ I oI fp n P St m news J, it = .ref I ∧ CompB w A g ws s₀ L (envX cn cs L a ccd cl) scope cl' x y ifs elt Q m I oI fp n P St news J s₂) E s₁) E s)
    (hsw : swapsWith (.ListComp elt [⟨.Name x px, iter, ifs, 0⟩] scope pos) (some (.Name y py)) spos.line (envX cn cs L a ccd cl) = pure true := by rfl)
    (hclos : closureFor scope (envX cn cs L a ccd cl) = pure cl' := by rfl) (hcell : ∀ z ∈ scope.names, z.2 ≠ .cell := by decide) (hkind : scope.kind = .function := by rfl)
    (hnames : ∀ z ∈ scope.names, z.2 = .local → scope.names.lookup z.1 = some .local := by decide) (hx : scope.names.lookup x = some .local := by rfl)
    (hk : cs.kind = .function := by rfl) (hy : (envX cn cs L a ccd cl).kindOf y = some .local := by rfl)
    (hs : ∀ x, foldedSetIterable iter (envX cn cs L a ccd cl) x = pure x := by intro _; rfl) :
    wpAny (model PG w) A (exec (.Assign [.Name y py] (.ListComp elt [⟨.Name x px, iter, ifs, 0⟩] scope pos) spos) (envX cn cs L a ccd cl)) Q E s := by
  rw [exec_Assign_Name_used _ _ _ _ hsw]
  refine wpAny_bind (wpAny_standAt (wpAny_bind ?_))
  show wpAny _ A (do let _ ← comprehension (.ListComp elt [⟨.Name x px, iter, ifs, 0⟩] scope pos) scope (envX cn cs L a ccd cl) _ (newList []) false (eval iter (envX cn cs L a ccd cl)) (some (assign (.Name y py) (envX cn cs L a ccd cl)))) _ _ s
  refine wpAny_bind (wpAny_mono (wpAny_comprehension_free (use := some (assign (.Name y py) (envX cn cs L a ccd cl))) (Q := fun _ s' => Q .next s') rfl hs hclos hkind hnames
    (wpAny_mono h (fun xv s₁ h₁ => wpAny_mono h₁ (fun it s₂ h₂ => ?_) fun _ _ e => e) fun _ _ e => e)) (fun _ s' hq => wpAny_pure (wpAny_pure hq)) fun _ _ e => e)
  obtain ⟨I, oI, fp, n, P, St, m, news, J, rfl, B⟩ := h₂
  obtain ⟨W, hn, live, st, fpl, c, hI, off, j0, jk, turn, fin⟩ := B
  have c₀ := c
  refine wpAny_newObj_type (wpAny_newFunctionEnv hcell (by intro y hy; simp at hy) (fun h₁ hns₁ hsb₁ => ?_) hkind)
  dsimp only at hns₁ hsb₁ ⊢
  generalize hH2 : s₂.heap.push { cls := .type "list", dict := none, data := .seq ([] : List Value).toArray } = H2 at hns₁ hsb₁ ⊢
  have hC : H2.objs.size = s₂.heap.objs.size + 1 := by rw [← hH2, Heap.size_push]
  have old2 : ∀ b o, s₂.heap.get? b = some o → H2.get? b = some o := fun b o e => hH2 ▸ Heap.get?_push_of_some _ e
  have below : ∀ b, b < s₂.heap.objs.size → b ≠ H2.objs.size ∧ b ≠ s₂.heap.objs.size := fun b hb => ⟨by rw [hC]; exact Nat.ne_of_lt (Nat.lt_succ_of_lt hb), Nat.ne_of_lt hb⟩
  have old : ∀ b o, s₂.heap.get? b = some o → h₁.get? b = some o := fun b o e => hsb₁.extBut b o (below b (Heap.lt_size e)).1 (Heap.get?_push_of_some _ (old2 b o e))
  have hDC : s₂.heap.objs.size ≠ H2.objs.size := by rw [hC]; exact Nat.ne_of_lt (Nat.lt_succ_self _)
  have eD : h₁.get? s₂.heap.objs.size = some (listObj #[] 0) := hsb₁.extBut _ _ hDC (Heap.get?_push_of_some _ (hH2 ▸ Heap.get?_push_size _ rfl))
  obtain ⟨oC, esC, epC, eC, hdC, _⟩ := id hns₁
  have hsz : (s₀.heap.objs.size : Nat) < s₂.heap.objs.size := c.lt
  have c₁ : Cx w g ws s₀ L m ((I, oI) :: (H2.objs.size, oC) :: (s₂.heap.objs.size, listObj #[] 0) :: news) { s₂ with heap := h₁, toks := s₂.toks + ([] : List (Str × Value)).length } :=
    (Cx.new (Cx.new (c.ext (s' := { s₂ with heap := h₁, toks := s₂.toks + ([] : List (Str × Value)).length }) old rfl rfl) eD hsz) eC (by rw [hC]; exact Nat.lt_succ_of_lt hsz)).drop fun p hp => by
      cases hp with
      | head => exact .tail _ (.tail _ (.head _))
      | tail _ hp => cases hp with
        | head => exact .head _
        | tail _ hp => cases hp with
          | head => exact .tail _ (.head _)
          | tail _ hp => exact .tail _ (.tail _ (.tail _ hp))
  have off1 : Off I H2.objs.size s₂.heap.objs.size news := fun p hp => ⟨off p hp, below _ (Heap.lt_size (c.N p (.tail _ hp)).1)⟩
  have hIlt : I < s₂.heap.objs.size := Heap.lt_size (c.get (.head _))
  have hLlt : L < s₂.heap.objs.size := by obtain ⟨oL, _, _, e, _⟩ := c.F.ns; exact Heap.lt_size e
  have hID : I ≠ s₂.heap.objs.size := (below I hIlt).2
  have hIC : I ≠ H2.objs.size := (below I hIlt).1
  have big : (221 : Nat) ≤ s₂.heap.objs.size := Nat.le_trans hI (Nat.le_of_lt hIlt)
  have bigC : (221 : Nat) ≤ H2.objs.size := by rw [hC]; exact Nat.le_succ_of_le big
  have hCf : H2.objs.size ∉ fp := fun q => (below _ (fpl _ q)).1 rfl
  have hDf : s₂.heap.objs.size ∉ fp := fun q => (below _ (fpl _ q)).2 rfl
  have st₁ : St 0 h₁ := W.frame _ _ _ st fun b _ o e => old b o e
  have j1 : J 0 [] news h₁ := jk _ _ _ _ _ j0 (.of old)
  clear eC hdC
  have loop : ∀ s₃ : Shared, s₃ = { s₂ with heap := h₁, toks := s₂.toks + ([] : List (Str × Value)).length } →
      codeAny (model PG w) A (.compLoop (.ListComp elt [⟨.Name x px, iter, ifs, 0⟩] scope pos) 0 (.ref I) (.ref s₂.heap.objs.size) (compEnvC scope cl' H2.objs.size (envX cn cs L a ccd cl)))
        (compPost (model PG w) A E (some (assign (.Name y py) (envX cn cs L a ccd cl))) (fun _ s' => Q .next s') (.ref s₂.heap.objs.size) H2.objs.size) s₃ := by
    rintro s₃ rfl
    refine codeAny_compLoop_tests
      (fun k s' => ∃ i ys kk oI oC mC news', i ≤ n ∧ k = n + 1 - i ∧ ys.length ≤ i ∧ St i s'.heap ∧ J i ys news' s'.heap ∧ s'.heap.Ns H2.objs.size mC ∧ Cx w g ws s₀ L m ((I, oI) :: (H2.objs.size, oC) :: (s₂.heap.objs.size, listObj ys.toArray kk) :: news') s' ∧ Off I H2.objs.size s₂.heap.objs.size news') ?_ (n + 1)
      ⟨0, [], 0, oI, oC, _, news, Nat.zero_le _, rfl, Nat.le_refl _, st₁, j1, hns₁, c₁, off1⟩
    rintro k s' ⟨i, ys, kk, oI, oC, mC, news, hi, rfl, hyl, hst, hJ, hns, c, off⟩
    have nI : ∀ p ∈ (H2.objs.size, oC) :: (s₂.heap.objs.size, listObj ys.toArray kk) :: news, p.1 ≠ I := fun p hp => by
      cases hp with
      | head => exact Ne.symm hIC
      | tail _ hp => cases hp with
        | head => exact Ne.symm hID
        | tail _ hp => exact (off p hp).1
    obtain ⟨oI', eI, nc⟩ := live _ _ hst
    have ncI : ∀ o vs, s'.heap.get? I = some o → ¬ CodeD o vs := fun o vs e => by rw [eI] at e; cases e; exact nc vs
    by_cases hlt : i < n
    · refine W.item i _ _ _ hlt hst fun v h₂ tk₂ hPv hst₂ hk₂ => ?_
      have k₂ : ∀ b o, b ≠ I → s'.heap.get? b = some o → h₂.get? b = some o := fun b o hb e => hk₂ b o (by simpa using hb) e
      obtain ⟨oI₂, eI₂, nc₂⟩ := live _ _ hst₂
      have c₂ := c.swap (tk := tk₂) hI nI k₂ eI₂
      have J₂ := jk _ _ _ _ _ hJ (keepx_but (.inl rfl) ncI k₂)
      have ns₂ := hns.at' fun o e => k₂ _ o (Ne.symm hIC) e
      refine wpAny_assign_Name (wpAny_storeName_local (lookup_relabel_local hx) ns₂ (fun h₃ hn₃ hs₃ => ?_) (by simp [compEnvC, relabel, hkind]))
      obtain ⟨oC₃, esC₃, epC₃, eC₃, hdC₃, _⟩ := id hn₃
      have k₃ : ∀ b o, b ≠ H2.objs.size → h₂.get? b = some o → h₃.get? b = some o := fun b o hb e => hs₃.extBut b o hb e
      have c₂' : Cx w g ws s₀ L m ((H2.objs.size, oC) :: (I, oI₂) :: (s₂.heap.objs.size, listObj ys.toArray kk) :: news) { s' with heap := h₂, toks := tk₂ } := c₂.drop fun p hp => by
        cases hp with
        | head => exact .tail _ (.head _)
        | tail _ hp => cases hp with
          | head => exact .head _
          | tail _ hp => exact .tail _ (.tail _ hp)
      have c₃' := c₂'.swap (tk := tk₂ + 1) bigC (fun p hp => by
        cases hp with
        | head => exact hIC
        | tail _ hp => cases hp with
          | head => exact hDC
          | tail _ hp => exact (off p hp).2.1) k₃ eC₃
      have c₃ : Cx w g ws s₀ L m ((I, oI₂) :: (H2.objs.size, oC₃) :: (s₂.heap.objs.size, listObj ys.toArray kk) :: news) { s' with heap := h₃, toks := tk₂ + 1 } := c₃'.drop fun p hp => by
        cases hp with
        | head => exact .tail _ (.head _)
        | tail _ hp => cases hp with
          | head => exact .head _
          | tail _ hp => exact .tail _ (.tail _ hp)
      have J₃ := jk _ _ _ _ _ J₂ (keepx_but (h' := h₃) (.inr (.inl hC)) (ns_noCode ns₂) k₃)
      have st₃ : St (i + 1) h₃ := W.frame _ _ _ hst₂ fun b hb o e => k₃ b o (fun q => hCf (q ▸ hb)) e
      refine wpAny_mono (turn _ _ i v ys kk oI₂ oC₃ _ news _ _ hC rfl hlt hPv J₃ c₃ hn₃ (by simp) off hyl) (fun ok s₄ h₄ => ?_) fun _ _ e => e
      cases ok with
      | true =>
        rw [if_pos rfl] at h₄ ⊢
        refine wpAny_mono h₄ (fun v' s₅ h₅ => ?_) fun _ _ e => e
        obtain ⟨news₅, J₅, c₅, off₅, fk⟩ := h₅
        have st₅ : St (i + 1) s₅.heap := W.frame _ _ _ st₃ fk
        refine list_app (c₅.get (.tail _ (.tail _ (.head _)))) (by rw [List.size_toArray]; (exact ol13 hn hyl hlt)) fun s₆ hs₆ e₆ hg₆ ho₆ => ?_
        have c₆ := c₅.upd (Upd.tail hID (Upd.tail (Ne.symm hDC) (Upd.head (fun p hp => (off₅ p hp).2.2)))) big hs₆ e₆ hg₆ ho₆
        have k₆ : ∀ b o, b ≠ s₂.heap.objs.size → s₅.heap.get? b = some o → s₆.heap.get? b = some o := fun b o hb e => hs₆.extBut b o hb e
        have J₆ := jk _ _ _ _ _ J₅ (keepx_but (h' := s₆.heap) (.inr (.inr (.inl rfl))) (list_noCode (c₅.get (.tail _ (.tail _ (.head _))))) k₆)
        have st₆ : St (i + 1) s₆.heap := W.frame _ _ _ st₅ fun b hb o e => k₆ b o (fun q => hDf (q ▸ hb)) e
        rw [show ys.toArray.push v' = (ys ++ [v']).toArray by simp] at c₆
        have eC₅ := c₅.get (.tail _ (.head _))
        have ns₅ : s₅.heap.Ns H2.objs.size _ := ⟨oC₃, esC₃, epC₃, eC₅, hdC₃, by assumption⟩
        exact ⟨n + 1 - (i + 1), by (exact ol14 hlt), i + 1, ys ++ [v'], _, _, _, _, news₅, hlt, rfl, by simp; assumption, st₆, J₆, ns₅.at' fun o e => k₆ _ o (Ne.symm hDC) e, c₆, off₅⟩
      | false =>
        rw [if_neg (by decide)] at h₄ ⊢
        obtain ⟨news₅, J₅, c₅, off₅, fk⟩ := h₄
        have eC₅ := c₅.get (.tail _ (.head _))
        exact ⟨n + 1 - (i + 1), by (exact ol14 hlt), i + 1, ys, _, _, _, _, news₅, hlt, rfl, by (exact Nat.le_succ_of_le (by assumption)), W.frame _ _ _ st₃ fk, J₅, ⟨oC₃, esC₃, epC₃, eC₅, hdC₃, by assumption⟩, c₅, off₅⟩
    · obtain rfl : i = n := Nat.le_antisymm hi (Nat.not_lt.mp hlt)
      refine W.done _ _ _ hst fun h₂ tk₂ hk₂ => ?_
      have k₂ : ∀ b o, b ≠ I → s'.heap.get? b = some o → h₂.get? b = some o := fun b o hb e => hk₂ b o (by simpa using hb) e
      have cI : Cx w g ws s₀ L m ((H2.objs.size, oC) :: (s₂.heap.objs.size, listObj ys.toArray kk) :: news) s' := c.drop fun p hp => .tail _ hp
      have zI := (c.N (I, oI) (.head _)).2
      have c₂ := cI.turnW (wr := [I]) (h' := h₂) (tk := tk₂) (fun b hb => by rw [List.mem_singleton] at hb; subst hb; exact ⟨hI, zI.2, Ne.symm zI.1⟩) (fun p hp q => nI p hp (List.mem_singleton.mp q)) fun b o hb e => hk₂ b o hb e
      have J₂ := jk _ _ _ _ _ hJ (keepx_but (h' := h₂) (.inl rfl) ncI k₂)
      have ns₂ := hns.at' fun o e => k₂ _ o (Ne.symm hIC) e
      show wpAny _ A (assign (.Name y py) (envX cn cs L a ccd cl) (.ref s₂.heap.objs.size)) _ _ _
      have zC := (c₂.N (H2.objs.size, oC) (.head _)).2
      have zD := (c₂.N (s₂.heap.objs.size, listObj ys.toArray kk) (.tail _ (.head _))).2
      refine wpAny_assign_Name (c_storeK c₂ (fun s₅ c₅ k₅ => ?_) hk hy)
      have nsL := c₂.F.ns
      have J₅ := jk _ _ _ _ _ J₂ (keepx_but (h' := s₅.heap) (.inr (.inr (.inr rfl))) (ns_noCode nsL) k₅)
      have ns₅ := ns₂.at' fun o e => k₅ _ o zC.1 e
      refine ⟨_, ns₅, fun h₆ hs₆ => ?_⟩
      have k₆ : ∀ b o, b ≠ H2.objs.size → s₅.heap.get? b = some o → h₆.get? b = some o := fun b o hb e => hs₆.extBut b o hb e
      have c₆ := (c₅.drop (news' := (s₂.heap.objs.size, listObj ys.toArray kk) :: news) fun p hp => .tail _ hp).turnW (wr := [H2.objs.size]) (h' := h₆) (tk := s₅.toks) (fun b hb => by rw [List.mem_singleton] at hb; subst hb; exact ⟨bigC, zC.2, Ne.symm zC.1⟩) (fun p hp q => by
        have q' := List.mem_singleton.mp q
        cases hp with
        | head => exact hDC q'
        | tail _ hp => exact (off p hp).2.1 q') fun b o hb e => k₆ b o (fun q => hb (by rw [q]; exact .head _)) e
      exact fin _ kk ys news _ (jk _ _ _ _ _ J₅ (keepx_but (h' := h₆) (.inr (.inl hC)) (ns_noCode ns₅) k₆)) (Nat.le_refl _) c₆ fun p hp => (off p hp).2.2
  exact codeAny_compStart_list (loop _ rfl) (W.self 0 _ _ _ st₁ (loop _ rfl))
end
end Mine
end

section
open PySem PySem.W PySem.Calls PyProof.Rows
set_option maxRecDepth 100000
set_option maxHeartbeats 8000000
namespace Mine
noncomputable def Led (L : Addr) (o4 o3 o2 o1 : Obj) (rl : Addr) (ol : Obj) (ps ps2 : Array Value) : List (Addr × Obj) := [(L + 4, o4), (L + 3, o3), (L + 2, o2), (L + 1, o1), (rl, ol), (198, tabObj ps), (205, tabObj ps2)]
section
variable {L rl : Addr} {o4 o3 o2 o1 ol : Obj} {ps ps2 ps' ps2' : Array Value}
theorem led4 : (L + 4, o4) ∈ Led L o4 o3 o2 o1 rl ol ps ps2 := .head _
theorem led3 : (L + 3, o3) ∈ Led L o4 o3 o2 o1 rl ol ps ps2 := .tail _ (.head _)
theorem led2 : (L + 2, o2) ∈ Led L o4 o3 o2 o1 rl ol ps ps2 := .tail _ (.tail _ (.head _))
theorem led1 : (L + 1, o1) ∈ Led L o4 o3 o2 o1 rl ol ps ps2 := .tail _ (.tail _ (.tail _ (.head _)))
theorem ledr : (rl, ol) ∈ Led L o4 o3 o2 o1 rl ol ps ps2 := .tail _ (.tail _ (.tail _ (.tail _ (.head _))))
theorem led198 : ((198 : Addr), tabObj ps) ∈ Led L o4 o3 o2 o1 rl ol ps ps2 := .tail _ (.tail _ (.tail _ (.tail _ (.tail _ (.head _)))))
theorem led205 : ((205 : Addr), tabObj ps2) ∈ Led L o4 o3 o2 o1 rl ol ps ps2 := .tail _ (.tail _ (.tail _ (.tail _ (.tail _ (.tail _ (.head _))))))
theorem hi_ne {a b : Addr} (ha : (221 : Nat) ≤ a) (hb : b < (221 : Nat)) : a ≠ b := fun q => absurd ha (by rw [q]; exact Nat.not_le.mpr hb)
theorem upd205 (hL : (221 : Nat) ≤ L) (hr : (221 : Nat) ≤ rl) : Upd 205 (tabObj ps2) (tabObj ps2') (Led L o4 o3 o2 o1 rl ol ps ps2) (Led L o4 o3 o2 o1 rl ol ps ps2') :=
  Upd.tail (hi_ne (Nat.le_trans hL (Nat.le_add_right _ _)) (by decide)) (Upd.tail (hi_ne (Nat.le_trans hL (Nat.le_add_right _ _)) (by decide)) (Upd.tail (hi_ne (Nat.le_trans hL (Nat.le_add_right _ _)) (by decide)) (Upd.tail (hi_ne (Nat.le_trans hL (Nat.le_add_right _ _)) (by decide)) (Upd.tail (hi_ne hr (by decide)) (Upd.tail (show (198 : Addr) ≠ 205 by decide) (Upd.head fun _ h => nomatch h))))))
theorem upd198 (hL : (221 : Nat) ≤ L) (hr : (221 : Nat) ≤ rl) : Upd 198 (tabObj ps) (tabObj ps') (Led L o4 o3 o2 o1 rl ol ps ps2) (Led L o4 o3 o2 o1 rl ol ps' ps2) :=
  Upd.tail (hi_ne (Nat.le_trans hL (Nat.le_add_right _ _)) (by decide)) (Upd.tail (hi_ne (Nat.le_trans hL (Nat.le_add_right _ _)) (by decide)) (Upd.tail (hi_ne (Nat.le_trans hL (Nat.le_add_right _ _)) (by decide)) (Upd.tail (hi_ne (Nat.le_trans hL (Nat.le_add_right _ _)) (by decide)) (Upd.tail (hi_ne hr (by decide)) (Upd.head fun q hq => by rw [List.mem_singleton] at hq; subst hq; show (205 : Addr) ≠ 198; decide)))))
theorem led_addr {p : Addr × Obj} (h : p ∈ Led L o4 o3 o2 o1 rl ol ps ps2) : p.1 = L + 4 ∨ p.1 = L + 3 ∨ p.1 = L + 2 ∨ p.1 = L + 1 ∨ p.1 = rl ∨ p.1 = 198 ∨ p.1 = 205 := by
  unfold Led at h
  simp only [List.mem_cons, List.not_mem_nil, or_false] at h
  rcases h with rfl | rfl | rfl | rfl | rfl | rfl | rfl <;> simp
end
theorem pyIter_strN {w : World} {A : Around} {E : Value → Shared → Prop} {s : Shared} {x : Str} {t : Tok} {Q : Value → Shared → Prop}
    (hQ : ∀ (o : Obj) (St : Nat → Heap → Prop), (∀ A' : Around, A'.handled = none → Walks PG w A' s.heap.objs.size [s.heap.objs.size] [s.heap.objs.size] x.cps.size (SignAt x) St) → (∀ i h, St i h → ∃ o, h.get? s.heap.objs.size = some o ∧ ∀ vs, ¬ CodeD o vs) → St 0 (s.heap.push o) →
      Q (.ref s.heap.objs.size) { s with heap := s.heap.push o }) : wpAny (model PG w) A (pyIter (.str x t)) Q E s := by
  have nc : ∀ {o : Obj} {x : Str} {t : Tok} {i : Nat}, o.data = .fields #[.str x t, .int (i : Nat) 0] → ∀ vs, ¬ CodeD o vs := fun hd vs c => by
    have h1 := c.1
    rw [hd] at h1
    cases h1
    obtain ⟨q, t', e⟩ := c.2
    cases e
  cases ha : x.cps.all (· < 128)
  · exact wpAny_pyIter_wide ha (hQ _ _ (fun A' hA => Walks.strWide hA _ x t) (fun _ _ h => let ⟨o, e, _, d⟩ := h; ⟨o, e, nc d⟩) ⟨_, Heap.get?_push_size _ rfl, rfl, rfl⟩)
  · exact wpAny_pyIter_ascii ha (hQ _ _ (fun A' hA => Walks.strAscii hA _ x t) (fun _ _ h => let ⟨o, e, _, d⟩ := h; ⟨o, e, nc d⟩) ⟨_, Heap.get?_push_size _ rfl, rfl, rfl⟩)
section
variable {w : World} {A : Around} {E : Value → Shared → Prop} {s : Shared} {g : Heap} {ws : List Addr} {s₀ : Shared} {L : Addr} {m : Str → Option Value} {news : List (Addr × Obj)} {cn : Str} {cs : Scope} {a : Addr} {ccd : Value} {cl : List (Str × Addr)} {sc : Scope} {cl' : List (Str × Addr)} {C : Addr}
theorem k_glob {x : Str} {pos : Pos} {v : Value} {Q : Value → Shared → Prop} (c : Cx w g ws s₀ L m news s) (e : nsIn (KK w) mainGlobals x = some (some v)) (h : Q v s)
    (hk : sc.kind = .function := by rfl) (hx : (compEnvC sc cl' C (envX cn cs L a ccd cl)).kindOf x = some .globalImplicit := by rfl) (hd : (x == ("__debug__" : Str)) = false := by decide) :
    wpAny (model PG w) A (eval (.Name x pos) (compEnvC sc cl' C (envX cn cs L a ccd cl))) Q E s := by
  obtain ⟨_, _, mg, mb, T⟩ := c.B.gd.T
  exact Name_function_global (env := compEnvC sc cl' C (envX cn cs L a ccd cl)) (by exact hk) hx (loadGlobal_global (env := compEnvC sc cl' C (envX cn cs L a ccd cl)) (T.g.keeps c.F.keep) (mg_of c.B.gd.X T.g e) h) hd
theorem k_cell {x : Str} {pos : Pos} {cc : Addr} {o : Obj} {v : Value} {Q : Value → Shared → Prop} (c : Cx w g ws s₀ L m news s) (hm : (cc, o) ∈ news) (hd : o.data = .cell (some v)) (h : Q v s)
    (hc : cl'.lookup x = some cc := by rfl) (hk : sc.kind = .function := by rfl) (hx : (compEnvC sc cl' C (envX cn cs L a ccd cl)).kindOf x = some .cell := by rfl) (hb : (x == ("__debug__" : Str)) = false := by decide) :
    wpAny (model PG w) A (eval (.Name x pos) (compEnvC sc cl' C (envX cn cs L a ccd cl))) Q E s := wpAny_Name (wpAny_loadName_cell (by exact hk) hx hc ⟨o, c.get hm, hd⟩ h) hb
theorem k_loc {x : Str} {pos : Pos} {v : Value} {m₂ : Str → Option Value} {Q : Value → Shared → Prop} (hn : s.heap.Ns C m₂) (hv : m₂ x = some v) (h : Q v s)
    (hk : sc.kind = .function := by rfl) (hx : (compEnvC sc cl' C (envX cn cs L a ccd cl)).kindOf x = some .local := by rfl) (hb : (x == ("__debug__" : Str)) = false := by decide) :
    wpAny (model PG w) A (eval (.Name x pos) (compEnvC sc cl' C (envX cn cs L a ccd cl))) Q E s := wpAny_Name (wpAny_loadName_local (by exact hk) hx hn hv h) hb
theorem c_cell {x : Str} {pos : Pos} {cc : Addr} {o : Obj} {v : Value} {Q : Value → Shared → Prop} (c : Cx w g ws s₀ L m news s) (hm : (cc, o) ∈ news) (hd : o.data = .cell (some v)) (h : Q v s)
    (hc : cl.lookup x = some cc := by rfl) (hk : cs.kind = .function := by rfl) (hx : (envX cn cs L a ccd cl).kindOf x = some .cell := by rfl) (hb : (x == ("__debug__" : Str)) = false := by decide) :
    wpAny (model PG w) A (eval (.Name x pos) (envX cn cs L a ccd cl)) Q E s := wpAny_Name (wpAny_loadName_cell (by exact hk) hx hc ⟨o, c.get hm, hd⟩ h) hb
end
end Mine
end

section
open PySem PySem.W PySem.Calls PyProof.Rows
set_option maxRecDepth 100000
set_option maxHeartbeats 8000000
namespace Mine
noncomputable def HitsAt (w : World) (lo : Nat) (h : Heap) (z : Int) (sp : Str) (r : List Nat) (col : Nat) (i : Nat) (ys : List Value) : Prop :=
  ys.length = i ∧ ∀ (j : Nat) (c : Nat), j < i → sp.cps[j]? = some c → ∃ y, ys[j]? = some y ∧ HitOr w lo h z (lastBelow [c] r (col + 1)) y
theorem HitsAt.keep {w : World} {lo : Nat} {h h' : Heap} {z : Int} {sp : Str} {r : List Nat} {col i : Nat} {ys : List Value} (H : HitsAt w lo h z sp r col i ys) (k : Keep2 lo h h') : HitsAt w lo h' z sp r col i ys :=
  ⟨H.1, fun j c hj e => let ⟨y, e1, e2⟩ := H.2 j c hj e; ⟨y, e1, e2.keep k⟩⟩
theorem HitsAt.mono {w : World} {lo lo' : Nat} {h : Heap} {z : Int} {sp : Str} {r : List Nat} {col i : Nat} {ys : List Value} (H : HitsAt w lo h z sp r col i ys) (hl : lo' ≤ lo) (big : (221 : Nat) ≤ lo') : HitsAt w lo' h z sp r col i ys :=
  ⟨H.1, fun j c hj e => let ⟨y, e1, e2⟩ := H.2 j c hj e; ⟨y, e1, e2.mono hl big⟩⟩
theorem HitsAt.snoc {w : World} {lo : Nat} {h : Heap} {z : Int} {sp : Str} {r : List Nat} {col i : Nat} {ys : List Value} {c : Nat} {y : Value} (H : HitsAt w lo h z sp r col i ys) (hc : sp.cps[i]? = some c) (hy : HitOr w lo h z (lastBelow [c] r (col + 1)) y) : HitsAt w lo h z sp r col (i + 1) (ys ++ [y]) := by
  refine ⟨by simp [H.1], fun j c' hj e => ?_⟩
  rcases Nat.lt_or_ge j i with q | q
  · obtain ⟨y', e1, e2⟩ := H.2 j c' q e
    exact ⟨y', by rw [List.getElem?_append_left (by rw [H.1]; exact q)]; exact e1, e2⟩
  · have : j = i := Nat.le_antisymm (Nat.le_of_lt_succ hj) q
    subst this
    rw [hc] at e; cases e
    exact ⟨y, by rw [List.getElem?_append_right (by rw [H.1]; exact Nat.le_refl _), H.1, Nat.sub_self]; rfl, hy⟩
theorem off_led {L rl I C D : Addr} {o4 o3 o2 o1 ol : Obj} {ps ps2 ps' ps2' : Array Value} (h : Off I C D (Led L o4 o3 o2 o1 rl ol ps ps2)) : Off I C D (Led L o4 o3 o2 o1 rl ol ps' ps2') := fun p hp => by
  rcases led_addr hp with q | q | q | q | q | q | q <;> rw [q]
  · exact h _ led4
  · exact h _ led3
  · exact h _ led2
  · exact h _ led1
  · exact h _ ledr
  · exact h _ led198
  · exact h _ led205
section
variable {w : World} {A : Around} {E : Value → Shared → Prop} {s : Shared} {g : Heap} {s₀ : Shared} {L : Addr} {m : Str → Option Value} {cn : Str} {cs : Scope} {a : Addr} {ccd : Value} {cl : List (Str × Addr)} {sc : Scope} {cl' : List (Str × Addr)}
theorem hits_ok {o4 o3 o2 o1 ol : Obj} {rl : Addr} {ps ps2 : Array Value} {sp : Str} {ts tc tr tz : Tok} {r : List Nat} {col : Nat} {z : Int} {p1 p2 p3 p4 p5 p6 p7 p8 p9 p10 p11 p12 pos spos py : Pos} {k1 : Nat} {Q : Flow → Shared → Prop}
    (c : Cx w g [198, 205] s₀ L m (Led L o4 o3 o2 o1 rl ol ps ps2) s) (rm : Rm A 9) (hz : z = 0 ∨ z = 1) (CH : CodesIn qH ps s.heap) (CF : CodesIn qF ps2 s.heap) (hrl : (221 : Nat) ≤ rl)
    (n_signs : m "signs" = some (.str sp ts)) (d4 : o4.data = .cell (some (.int (col : Nat) tc))) (d2 : o2.data = .cell (some (.str (ofL r) tr))) (d1 : o1.data = .cell (some (.int z tz))) (hr : r.length ≤ 1000) (hsp : sp.cps.size ≤ 1000)
    (h : ∀ s' D k ys ps' ps2', Cx w g [198, 205] s₀ L (fun y => if y = "hits" then some (.ref D) else m y) ((D, listObj ys.toArray k) :: Led L o4 o3 o2 o1 rl ol ps' ps2') s' → CodesIn qH ps' s'.heap → CodesIn qF ps2' s'.heap → (L : Nat) + 5 ≤ D → (∀ p ∈ Led L o4 o3 o2 o1 rl ol ps' ps2', p.1 ≠ D) → HitsAt w (L + 5) s'.heap z sp r col sp.cps.size ys → Q .next s')
    (hsw : swapsWith (.ListComp (.Call (.Name "search_reverse" p1) [.Call (.Name "_law_finder" p2) [.Name "sign" p3, .Name "size" p4] [] p5, .Name "rest" p6, .BinOp (.Name "col" p7) .Add (.Constant (.int 1) k1 p8) p9] [] p10) [⟨.Name "sign" p11, .Name "signs" p12, [], 0⟩] sc pos) (some (.Name "hits" py)) spos.line (envX cn cs L a ccd cl) = pure true := by rfl)
    (hclos : closureFor sc (envX cn cs L a ccd cl) = pure cl' := by rfl) (hcell : ∀ z ∈ sc.names, z.2 ≠ .cell := by decide) (hkind : sc.kind = .function := by rfl)
    (hnames : ∀ z ∈ sc.names, z.2 = .local → sc.names.lookup z.1 = some .local := by decide) (hx : sc.names.lookup ("sign" : Str) = some .local := by rfl)
    (hk : cs.kind = .function := by rfl) (hy : (envX cn cs L a ccd cl).kindOf "hits" = some .local := by rfl) (hsg : (envX cn cs L a ccd cl).kindOf "signs" = some .local := by rfl)
    (x1 : ∀ C, (compEnvC sc cl' C (envX cn cs L a ccd cl)).kindOf "search_reverse" = some .globalImplicit := by intro _; rfl) (x2 : ∀ C, (compEnvC sc cl' C (envX cn cs L a ccd cl)).kindOf "_law_finder" = some .globalImplicit := by intro _; rfl)
    (x3 : ∀ C, (compEnvC sc cl' C (envX cn cs L a ccd cl)).kindOf "sign" = some .local := by intro _; rfl) (x4 : ∀ C, (compEnvC sc cl' C (envX cn cs L a ccd cl)).kindOf "size" = some .cell := by intro _; rfl)
    (x5 : ∀ C, (compEnvC sc cl' C (envX cn cs L a ccd cl)).kindOf "rest" = some .cell := by intro _; rfl) (x6 : ∀ C, (compEnvC sc cl' C (envX cn cs L a ccd cl)).kindOf "col" = some .cell := by intro _; rfl)
    (y1 : cl'.lookup ("size" : Str) = some (L + 1) := by rfl) (y2 : cl'.lookup ("rest" : Str) = some (L + 2) := by rfl) (y4 : cl'.lookup ("col" : Str) = some (L + 4) := by rfl) :
    wpAny (model PG w) A (exec (.Assign [.Name "hits" py] (.ListComp (.Call (.Name "search_reverse" p1) [.Call (.Name "_law_finder" p2) [.Name "sign" p3, .Name "size" p4] [] p5, .Name "rest" p6, .BinOp (.Name "col" p7) .Add (.Constant (.int 1) k1 p8) p9] [] p10) [⟨.Name "sign" p11, .Name "signs" p12, [], 0⟩] sc pos) spos) (envX cn cs L a ccd cl)) Q E s := by
  have hL : (221 : Nat) ≤ L := c.big
  have hL5 : (L : Nat) + 5 ≤ s.heap.objs.size := by have := Heap.lt_size (c.get led4); exact this
  refine c_comp (g := g) (ws := [198, 205]) (s₀ := s₀) (cl' := cl') ?_ hsw hclos hcell hkind hnames hx hk hy
  refine c_name c n_signs ?_ hk hsg
  refine pyIter_strN fun o St Wk live hS => ?_
  have c₁ := c.ext (s' := { s with heap := s.heap.push o }) (fun _ _ e => Heap.get?_push_of_some _ e) rfl rfl
  obtain ⟨o', eo, _⟩ := live _ _ hS
  have cI : Cx w g [198, 205] s₀ L m ((s.heap.objs.size, o') :: Led L o4 o3 o2 o1 rl ol ps ps2) { s with heap := s.heap.push o } := Cx.new c₁ eo c.lt
  obtain ⟨hI1, hI2, hI3, hI4⟩ := c.fresh (Nat.le_refl _)
  have hsz2 : (s.heap.push o).objs.size = s.heap.objs.size + 1 := Heap.size_push ..
  generalize hI : s.heap.objs.size = I at *
  refine ⟨I, o', [I], sp.cps.size, SignAt sp, St, m, Led L o4 o3 o2 o1 rl ol ps ps2, fun i ys news h => ∃ ps ps2, news = Led L o4 o3 o2 o1 rl ol ps ps2 ∧ CodesIn qH ps h ∧ CodesIn qF ps2 h ∧ HitsAt w (I + 3) h z sp r col i ys, rfl, Wk _ rm.hd, Nat.le_trans hsp (by decide), live, hS, ?_, cI, hI1, hI4, ?_, ?_, ?_, ?_⟩
  · intro b hb
    rw [List.mem_singleton] at hb; subst hb
    show _ < (s.heap.push o).objs.size
    rw [hsz2]; exact Nat.lt_succ_self _
  · exact ⟨ps, ps2, rfl, CH.keep fun b o vs _ _ e => Heap.get?_push_of_some _ e, CF.keep fun b o vs _ _ e => Heap.get?_push_of_some _ e, rfl, fun j c hj => absurd hj (Nat.not_lt_zero _)⟩
  · rintro i ys news h h' ⟨ps, ps2, rfl, a1, a2, a3⟩ k
    have e1 : (s.heap.push o).objs.size = I + 1 := hsz2
    have hLI : (L : Nat) < I + 3 := Nat.lt_of_lt_of_le (Nat.lt_of_lt_of_le (Nat.lt_add_of_pos_right (by decide)) hL5) (Nat.le_add_right _ _)
    have k' : Keep2 (I + 3) h h' := k.keep2 (Nat.lt_add_of_pos_right (by decide)) (by show (s.heap.push o).objs.size + 1 < I + 3; rw [e1]; exact Nat.lt_succ_self _) (by show (s.heap.push o).objs.size < I + 3; rw [e1]; exact Nat.lt_succ_of_lt (Nat.lt_succ_self _)) hLI
    exact ⟨ps, ps2, rfl, a1.keep fun b o vs hb hd e => k b o hb (.inr ⟨vs, hd⟩) e, a2.keep fun b o vs hb hd e => k b o hb (.inr ⟨vs, hd⟩) e, a3.keep k'⟩
  · rintro C D i v ys k oI oC m₂ news s₃ E' hC hD hi ⟨cc, uc, hcc, rfl⟩ ⟨ps, ps2, rfl, a1, a2, a3⟩ c₃ hn₂ hm₂ off hyl
    have hCD : C = I + 2 ∧ D = I + 1 := ⟨by rw [hC]; show (s.heap.push o).objs.size + 1 = _; rw [hsz2], by rw [hD]; show (s.heap.push o).objs.size = _; rw [hsz2]⟩
    have hIb : (221 : Nat) ≤ I := hI1
    have hI2' : (221 : Nat) ≤ C := by rw [hCD.1]; exact Nat.le_trans hIb (Nat.le_add_right _ _)
    have hI3' : (221 : Nat) ≤ D := by rw [hCD.2]; exact Nat.le_trans hIb (Nat.le_add_right _ _)
    have up205 : ∀ {ps ps2 ps2'}, Upd 205 (tabObj ps2) (tabObj ps2') ((I, oI) :: (C, oC) :: (D, listObj ys.toArray k) :: Led L o4 o3 o2 o1 rl ol ps ps2) ((I, oI) :: (C, oC) :: (D, listObj ys.toArray k) :: Led L o4 o3 o2 o1 rl ol ps ps2') := Upd.tail (hi_ne hIb (by decide)) (Upd.tail (hi_ne hI2' (by decide)) (Upd.tail (hi_ne hI3' (by decide)) (upd205 hL hrl)))
    have up198 : ∀ {ps ps' ps2}, Upd 198 (tabObj ps) (tabObj ps') ((I, oI) :: (C, oC) :: (D, listObj ys.toArray k) :: Led L o4 o3 o2 o1 rl ol ps ps2) ((I, oI) :: (C, oC) :: (D, listObj ys.toArray k) :: Led L o4 o3 o2 o1 rl ol ps' ps2) := Upd.tail (hi_ne hIb (by decide)) (Upd.tail (hi_ne hI2' (by decide)) (Upd.tail (hi_ne hI3' (by decide)) (upd198 hL hrl)))
    have inl : ∀ {p : Addr × Obj} {l : List (Addr × Obj)}, p ∈ l → p ∈ (I, oI) :: (C, oC) :: (D, listObj ys.toArray k) :: l := fun hp => .tail _ (.tail _ (.tail _ hp))
    have nk205 : ∀ b ∈ [(205 : Addr)], ¬ (221 : Nat) ≤ b := fun b hb => by rw [List.mem_singleton] at hb; subst hb; decide
    have nk198 : ∀ b ∈ [(198 : Addr)], ¬ (221 : Nat) ≤ b := fun b hb => by rw [List.mem_singleton] at hb; subst hb; decide
    refine wpAny_tests_nil ?_
    rw [if_pos rfl]
    refine Call_ ?_
    refine k_glob c₃ (v := .ref 189) (by kernel_rfl) ?_ hkind (x1 C)
    refine callWith_K (K := KK w) c₃.X (by kernel_rfl) ?_
    refine spliced_more ?_
    refine Call_ ?_
    refine k_glob c₃ (v := .ref 210) (by kernel_rfl) ?_ hkind (x2 C)
    refine callWith_K (K := KK w) c₃.X (by kernel_rfl) ?_
    refine spliced_more (k_loc hn₂ hm₂ (spliced_more (k_cell c₃ (inl led1) d1 (spliced_none ?_) y1 hkind (x4 C))) hkind (x3 C))
    refine ⟨c₃.X, ?_⟩
    refine finder_ok (sg := ⟨#[cc]⟩) c₃.ok rm.le (c₃.get (inl led205)) a2 fun s₄ fd ps2' O₄ S₄ T₄ C₄ F₄ => ?_
    have c₄ := c₃.call1 up205 S₄ O₄ T₄
    have K₄ : ∀ {lo}, Keep2 lo s₃.heap s₄.heap := S₄.keep2 nk205
    refine spliced_more (k_cell c₄ (inl led2) d2 (spliced_more ?_) y2 hkind (x5 C))
    refine wpAny_BinOp (k_cell c₄ (inl led4) d4 (c_intK c₄ fun s₅ t₅ c₅ e₅ => PyProof.Rows.add_int ?_) y4 hkind (x6 C))
    have c₆ := c₅.ext (s' := { s₅ with toks := s₅.toks + 1 }) (fun _ _ e => e) rfl rfl
    refine spliced_none ?_
    refine ⟨c₆.X, ?_⟩
    have K₅ : ∀ {lo}, Keep2 lo s₃.heap s₅.heap := fun {lo} => e₅ ▸ K₄
    refine srev_ok (s := { s₅ with toks := s₅.toks + 1 }) c₆.ok rm.le (by show FinderAt w _ s₅.heap _ _ _; rw [e₅]; exact F₄) hz (c₆.get (inl led198)) (a1.keep fun b o vs hb hd e => K₅ (lo := 0) b o hb (.inr ⟨vs, hd⟩) e) (by rw [ofL_len]; exact hr) fun s₇ rv ps' O₇ S₇ T₇ C₇ H₇ => ?_
    have c₇ := c₆.call1 up198 S₇ O₇ T₇
    have K₇ : ∀ {lo}, Keep2 lo s₃.heap s₇.heap := K₅.trans (S₇.keep2 nk198)
    refine ⟨Led L o4 o3 o2 o1 rl ol ps' ps2', ⟨ps', ps2', rfl, C₇, ?_, (a3.keep K₇).snoc (c := cc) ?_ ?_⟩, c₇, ?_, ?_⟩
    · exact C₄.keep fun b o vs hb hd e => (Mine.St.keep2 (lo := 0) S₇ nk198) b o hb (.inr ⟨vs, hd⟩) (by show s₅.heap.get? b = _; rw [e₅]; exact e)
    · exact hcc
    · have hlo : I + 3 ≤ s₅.heap.objs.size := by
        have := Heap.lt_size (c₆.get (.tail _ (.head _)))
        rw [hCD.1] at this; exact this
      have H₈ := H₇.mono (lo' := I + 3) hlo (Nat.le_trans hIb (Nat.le_add_right _ _))
      rw [show (((col : Nat) : Int) + 1).toNat = col + 1 by (exact ol15), show (ofL r).cps.toList = r by simp [ofL]] at H₈
      exact H₈
    · exact off_led off
    · intro b hb o e
      rw [List.mem_singleton] at hb; subst hb
      rw [c₃.get (.head _)] at e; cases e
      exact c₇.get (.head _)
  · rintro D k ys news s₃ ⟨ps, ps2, rfl, a1, a2, a3⟩ hD c₃ off
    refine h s₃ D k ys ps ps2 c₃ a1 a2 ?_ off (a3.mono ?_ (Nat.le_trans hL (Nat.le_add_right _ _)))
    · exact Nat.le_trans hL5 (Nat.le_trans (by show I ≤ (s.heap.push o).objs.size; rw [hsz2]; exact Nat.le_succ _) hD)
    · exact Nat.le_trans hL5 (Nat.le_add_right _ _)
end
end Mine
end

section
open PySem PySem.W PySem.Calls PyProof.Rows
set_option maxRecDepth 100000
set_option maxHeartbeats 8000000
namespace Mine
noncomputable def plF (sp : Str) (r : List Nat) (col st i : Nat) : List Nat := (sp.cps.toList.take i).filterMap fun c => (lastBelow [c] r (col + 1)).filter fun p => decide (st < p)
theorem plF_next {sp : Str} {r : List Nat} {col st i c : Nat} (h : sp.cps[i]? = some c) : plF sp r col st (i + 1) = plF sp r col st i ++ ((lastBelow [c] r (col + 1)).filter fun p => decide (st < p)).toList := by
  unfold plF
  rw [List.take_succ, show sp.cps.toList[i]? = some c by rw [Array.getElem?_toList]; exact h, List.filterMap_append]
  congr 1
noncomputable def SpanEq (env : Env) (x : Str) (q1 q2 q3 : Pos) : Prop := ∃ pl : Sem Bool, eval (.Call (.Attribute (.Name x q1) "span" q2) [] [] q3) env = (do
      let ov ← eval (.Name x q1) env
      standAt q2.atName
      let (f, first) ← holding [ov] (getMethod ov "span" pl)
      callWith q3 f first (backTo q3 (starEach [] env)) [])
theorem ints_snoc {vs : List Value} {ns : List Int} (h : IntsAre vs ns) (n : Int) (t : Tok) : IntsAre (vs ++ [.int n t]) (ns ++ [n]) := by
  induction h with
  | nil => exact .cons n t .nil
  | cons a b r ih => exact .cons a b ih
section
variable {w : World} {A : Around} {E : Value → Shared → Prop} {s : Shared} {g : Heap} {s₀ : Shared} {L : Addr} {m : Str → Option Value} {cn : Str} {cs : Scope} {a : Addr} {ccd : Value} {cl : List (Str × Addr)} {sc : Scope} {cl' : List (Str × Addr)}
theorem isnot_none {v : Value} {Q : Value → Shared → Prop} (hv : v = .none ∨ ∃ a, v = .ref a) (h : Q (.bool (!(v == .none))) s) : wpAny (model PG w) A (compareOp .IsNot v .none) Q E s := by
  refine wpAny_isNot_plain ?_ h
  rcases hv with rfl | ⟨a, rfl⟩ <;> rfl
theorem places_ok {o4 o3 o2 o1 ol : Obj} {rl D : Addr} {ps ps2 : Array Value} {sp : Str} {tst : Tok} {r : List Nat} {col st kd : Nat} {z : Int} {ys : List Value} {p1 p2 p3 p4 p5 p6 p7 p8 p9 q1 q2 q3 q4 q5 q6 q7 q8 pos lpos spos py : Pos} {k1 k2 k3 : Nat} {Q : Flow → Shared → Prop}
    (c : Cx w g [198, 205] s₀ L m ((D, listObj ys.toArray kd) :: Led L o4 o3 o2 o1 rl ol ps ps2) s) (rm : Rm A 4) (CH : CodesIn qH ps s.heap) (CF : CodesIn qF ps2 s.heap) (hD : (L : Nat) + 5 ≤ D) (hDl : ∀ p ∈ Led L o4 o3 o2 o1 rl ol ps ps2, p.1 ≠ D)
    (H : HitsAt w (L + 5) s.heap z sp r col sp.cps.size ys) (n_hits : m "hits" = some (.ref D)) (d3 : o3.data = .cell (some (.int (st : Nat) tst))) (hsp : sp.cps.size ≤ 1000)
    (h : ∀ s' D' k vs, Cx w g [198, 205] s₀ L (fun y => if y = "places" then some (.ref D') else m y) ((D', listObj vs.toArray k) :: Led L o4 o3 o2 o1 rl ol ps ps2) s' → CodesIn qH ps s'.heap → CodesIn qF ps2 s'.heap → (∀ p ∈ Led L o4 o3 o2 o1 rl ol ps ps2, p.1 ≠ D') → (L : Nat) + 5 ≤ D' → IntsAre vs ((plF sp r col st sp.cps.size).map fun (p : Nat) => (p : Int)) → Q .next s')
    (hsw : swapsWith (.ListComp (.Subscript (.Call (.Attribute (.Name "hit" p1) "span" p2) [] [] p3) (.Constant (.int 0) k1 p4) p5) [⟨.Name "hit" p6, .Name "hits" p7, [.BoolOp .And [.Compare (.Name "hit" q1) [.IsNot] [.Constant .none k2 q2] q3, .Compare (.Subscript (.Call (.Attribute (.Name "hit" q4) "span" q5) [] [] q6) (.Constant (.int 0) k3 q7) q8) [.Gt] [.Name "start" p8] p9] pos], 0⟩] sc lpos) (some (.Name "places" py)) spos.line (envX cn cs L a ccd cl) = pure true := by rfl)
    (hclos : closureFor sc (envX cn cs L a ccd cl) = pure cl' := by rfl) (hcell : ∀ z ∈ sc.names, z.2 ≠ .cell := by decide) (hkind : sc.kind = .function := by rfl)
    (hnames : ∀ z ∈ sc.names, z.2 = .local → sc.names.lookup z.1 = some .local := by decide) (hx : sc.names.lookup ("hit" : Str) = some .local := by rfl)
    (hk : cs.kind = .function := by rfl) (hy : (envX cn cs L a ccd cl).kindOf "places" = some .local := by rfl) (hsg : (envX cn cs L a ccd cl).kindOf "hits" = some .local := by rfl)
    (x3 : ∀ C, (compEnvC sc cl' C (envX cn cs L a ccd cl)).kindOf "hit" = some .local := by intro _; rfl) (x4 : ∀ C, (compEnvC sc cl' C (envX cn cs L a ccd cl)).kindOf "start" = some .cell := by intro _; rfl)
    (y3 : cl'.lookup ("start" : Str) = some (L + 3) := by rfl)
    (me1 : ∀ C, SpanEq (compEnvC sc cl' C (envX cn cs L a ccd cl)) "hit" p1 p2 p3 := by intro _; exact ⟨_, rfl⟩) (me2 : ∀ C, SpanEq (compEnvC sc cl' C (envX cn cs L a ccd cl)) "hit" q4 q5 q6 := by intro _; exact ⟨_, rfl⟩) :
    wpAny (model PG w) A (exec (.Assign [.Name "places" py] (.ListComp (.Subscript (.Call (.Attribute (.Name "hit" p1) "span" p2) [] [] p3) (.Constant (.int 0) k1 p4) p5) [⟨.Name "hit" p6, .Name "hits" p7, [.BoolOp .And [.Compare (.Name "hit" q1) [.IsNot] [.Constant .none k2 q2] q3, .Compare (.Subscript (.Call (.Attribute (.Name "hit" q4) "span" q5) [] [] q6) (.Constant (.int 0) k3 q7) q8) [.Gt] [.Name "start" p8] p9] pos], 0⟩] sc lpos) spos) (envX cn cs L a ccd cl)) Q E s := by
  have hL : (221 : Nat) ≤ L := c.big
  have hD2 : (221 : Nat) ≤ D := Nat.le_trans hL (Nat.le_trans (Nat.le_add_right _ _) hD)
  refine c_comp (g := g) (ws := [198, 205]) (s₀ := s₀) (cl' := cl') ?_ hsw hclos hcell hkind hnames hx hk hy
  refine c_name c n_hits ?_ hk hsg
  refine wpAny_pyIter_list (lo_list.at_ (c.get (.head _))) ?_
  have c₁ := c.ext (s' := { s with heap := s.heap.push { cls := .type "list_iterator", data := .fields #[.ref D, .int 0 0] } }) (fun _ _ e => Heap.get?_push_of_some _ e) rfl rfl
  have cI : Cx w g [198, 205] s₀ L m ((s.heap.objs.size, { cls := .type "list_iterator", data := .fields #[.ref D, .int 0 0] }) :: (D, listObj ys.toArray kd) :: Led L o4 o3 o2 o1 rl ol ps ps2) { s with heap := s.heap.push { cls := .type "list_iterator", data := .fields #[.ref D, .int 0 0] } } := Cx.new c₁ (Heap.get?_push_size _ rfl) c.lt
  obtain ⟨hI1, hI2, hI3, hI4⟩ := c.fresh (Nat.le_refl _)
  have hit0 : Heap.IsListIter (s.heap.push { cls := .type "list_iterator", data := .fields #[.ref D, .int 0 0] }) s.heap.objs.size D 0 := ⟨_, Heap.get?_push_size _ rfl, rfl, rfl⟩
  have hDlt : D < s.heap.objs.size := Heap.lt_size (c.get (.head _))
  have hsz2 : (s.heap.push { cls := .type "list_iterator", data := .fields #[.ref D, .int 0 0] }).objs.size = s.heap.objs.size + 1 := Heap.size_push ..
  have push : ∀ b o, s.heap.get? b = some o → (s.heap.push { cls := .type "list_iterator", data := .fields #[.ref D, .int 0 0] }).get? b = some o := fun _ _ e => Heap.get?_push_of_some _ e
  generalize hI : s.heap.objs.size = I at *
  generalize hP : s.heap.push { cls := .type "list_iterator", data := .fields #[.ref D, .int 0 0] } = hp at *
  have hIL5 : (L : Nat) + 5 ≤ I := Nat.le_trans hD (Nat.le_of_lt hDlt)
  refine ⟨I, _, [I, D], ys.toArray.size, (fun i v => ys.toArray[i]? = some v), _, m, (D, listObj ys.toArray kd) :: Led L o4 o3 o2 o1 rl ol ps ps2, fun i vs news h => news = (D, listObj ys.toArray kd) :: Led L o4 o3 o2 o1 rl ol ps ps2 ∧ CodesIn qH ps h ∧ CodesIn qF ps2 h ∧ Keep2 (L + 5) s.heap h ∧ IntsAre vs ((plF sp r col st i).map fun (p : Nat) => (p : Int)), rfl, Walks.list rm.hd I D (Nat.ne_of_lt hDlt) _, ?_, ?_, ⟨hit0, lo_list.at_ (cI.get (.tail _ (.head _)))⟩, ?_, cI, hI1, hI4, ?_, ?_, ?_, ?_⟩
  · rw [List.size_toArray, H.1]; exact Nat.le_trans hsp (by decide)
  · rintro i h ⟨⟨o, e, _, hd⟩, _⟩
    refine ⟨o, e, fun vs hc => ?_⟩
    have h1 := hc.1
    rw [hd] at h1
    cases h1
    obtain ⟨q, t', e⟩ := hc.2
    cases e
  · intro b hb
    show b < hp.objs.size
    rw [hsz2]
    cases hb with
    | head => exact Nat.lt_succ_self _
    | tail _ hb => cases hb with
      | head => exact Nat.lt_succ_of_lt hDlt
      | tail _ hb => cases hb
  · exact ⟨rfl, CH.keep fun b o vs _ _ e => push b o e, CF.keep fun b o vs _ _ e => push b o e, .of push, by unfold plF; exact .nil⟩
  · rintro i vs news h h' ⟨rfl, a1, a2, K, a4⟩ k
    refine ⟨rfl, a1.keep fun b o vs hb hd e => k b o hb (.inr ⟨vs, hd⟩) e, a2.keep fun b o vs hb hd e => k b o hb (.inr ⟨vs, hd⟩) e, fun b o hb hor e => ?_, a4⟩
    refine k b o hb ?_ (K b o hb hor e)
    rcases hor with ⟨q, _⟩ | q
    · have hlt : (b : Nat) < I := hI ▸ Heap.lt_size e
      refine .inl ⟨Nat.ne_of_lt hlt, ?_, ?_, ?_⟩
      · show b ≠ hp.objs.size + 1
        rw [hsz2]; exact Nat.ne_of_lt (Nat.lt_succ_of_lt (Nat.lt_succ_of_lt hlt))
      · show b ≠ hp.objs.size
        rw [hsz2]; exact Nat.ne_of_lt (Nat.lt_succ_of_lt hlt)
      · exact Nat.ne_of_gt (Nat.lt_of_lt_of_le (Nat.lt_add_of_pos_right (by decide)) q)
    · exact .inr q
  · rintro C D' i v vs k oI oC m₂ news s₃ E' hC hD' hi hv ⟨rfl, a1, a2, K, a4⟩ c₃ hn₂ hm₂ off hyl
    have hv' : ys[i]? = some v := by rw [← List.getElem?_toArray]; exact hv
    have hi' : i < sp.cps.size := by rw [List.size_toArray, H.1] at hi; exact hi
    obtain ⟨cc, hcc⟩ : ∃ cc, sp.cps[i]? = some cc := ⟨_, Array.getElem?_eq_getElem hi'⟩
    obtain ⟨y, ey, hy'⟩ := H.2 i cc hi' hcc
    rw [hv'] at ey; cases ey
    have Hv := hy'.keep K
    have inl : ∀ {p : Addr × Obj} {l : List (Addr × Obj)}, p ∈ l → p ∈ (I, oI) :: (C, oC) :: (D', listObj vs.toArray k) :: l := fun hp => .tail _ (.tail _ (.tail _ hp))
    have hro : ∀ {o : Option Nat} {r : Value} {lo : Nat} {h : Heap}, HitOr w lo h z o r → (r = .none ∨ ∃ a, r = .ref a) ∧ (r == .none) = o.isNone := fun {o} {r} {lo} {h} H => by
      cases o with
      | none => have e : r = .none := H; subst e; exact ⟨.inl rfl, rfl⟩
      | some p => obtain ⟨u, rfl, _⟩ := H; exact ⟨.inr ⟨u, rfl⟩, rfl⟩
    have fpk : ∀ {s' : Shared}, Cx w g [198, 205] s₀ L m ((I, oI) :: (C, oC) :: (D', listObj vs.toArray k) :: (D, listObj ys.toArray kd) :: Led L o4 o3 o2 o1 rl ol ps ps2) s' → ∀ b ∈ [I, D], ∀ o, s₃.heap.get? b = some o → s'.heap.get? b = some o := fun c' b hb o e => by
      cases hb with
      | head => rw [c₃.get (.head _)] at e; cases e; exact c'.get (.head _)
      | tail _ hb => cases hb with
        | head => rw [c₃.get (inl (.head _))] at e; cases e; exact c'.get (inl (.head _))
        | tail _ hb => cases hb
    refine wpAny_tests_one ?_
    refine isTrue_and (wpAny_isTrue_Compare1 ?_)
    refine k_loc hn₂ hm₂ (wpAny_Constant_none (isnot_none (hro Hv).1 (wpAny_truthy_bool ?_))) hkind (x3 C)
    rw [(hro Hv).2]
    cases hl : lastBelow [cc] r (col + 1) with
    | none =>
      rw [if_neg (by decide), if_neg (by decide)]
      refine ⟨_, ⟨rfl, a1, a2, K, ?_⟩, c₃, off, fpk c₃⟩
      rw [plF_next hcc, hl]; simpa using a4
    | some p =>
      rw [hl] at Hv
      obtain ⟨u, rfl, Hu⟩ := Hv
      rw [if_pos (show (!(some p).isNone) = true from rfl)]
      refine isTrue_and (wpAny_isTrue_Compare1 ?_)
      refine Subscript_ ?_
      obtain ⟨pl2, me2⟩ := me2 C
      refine MethodCall_ ?_ me2
      refine k_loc hn₂ hm₂ ?_ hkind (x3 C)
      refine span_call c₃ (rm.room) Hu fun s₄ T u1 u2 c₄ S₄ eT hT => ?_
      refine c_intK c₄ fun s₅ t₅ c₅ e₅ => ?_
      refine pair_item (by rw [e₅]; exact eT) (by decide) (by decide) (by rfl) (by rfl) ?_
      refine k_cell c₅ (inl (.tail _ led3)) d3 ?_ y3 hkind (x4 C)
      refine gt_int (wpAny_truthy_bool ?_)
      have nn : ∀ b ∈ ([] : List Addr), ¬ (221 : Nat) ≤ b := fun _ h => nomatch h
      have K₅ : ∀ {lo}, Keep2 lo s₃.heap s₅.heap := fun {lo} => e₅ ▸ S₄.keep2 nn
      have b1 : CodesIn qH ps s₅.heap := a1.keep fun b o vs hb hd e => K₅ (lo := 0) b o hb (.inr ⟨vs, hd⟩) e
      have b2 : CodesIn qF ps2 s₅.heap := a2.keep fun b o vs hb hd e => K₅ (lo := 0) b o hb (.inr ⟨vs, hd⟩) e
      by_cases hst : st < p
      · rw [decide_eq_true (show ((p : Nat) : Int) > (st : Nat) by (exact ol16 hst)), if_pos rfl]
        refine isTrue_and_nil ?_
        rw [if_pos rfl]
        refine Subscript_ ?_
        obtain ⟨pl1, me1⟩ := me1 C
        refine MethodCall_ ?_ me1
        have hn₅ : s₅.heap.Ns C m₂ := by
          obtain ⟨o', es, ep, e', hd⟩ := hn₂
          have e2 := c₃.get (.tail _ (.head _))
          rw [e2] at e'; cases e'
          exact ⟨oC, es, ep, c₅.get (.tail _ (.head _)), hd⟩
        refine k_loc hn₅ hm₂ ?_ hkind (x3 C)
        refine span_call c₅ (rm.room) (Hu.keep K₅) fun s₆ T' u1' u2' c₆ S₆ eT' hT' => ?_
        refine c_intK c₆ fun s₇ t₇ c₇ e₇ => ?_
        refine pair_item (by rw [e₇]; exact eT') (by decide) (by decide) (by rfl) (by rfl) ?_
        have K₇ : ∀ {lo}, Keep2 lo s₅.heap s₇.heap := fun {lo} => e₇ ▸ S₆.keep2 nn
        refine ⟨_, ⟨rfl, b1.keep fun b o vs hb hd e => K₇ (lo := 0) b o hb (.inr ⟨vs, hd⟩) e, b2.keep fun b o vs hb hd e => K₇ (lo := 0) b o hb (.inr ⟨vs, hd⟩) e, (K.trans K₅).trans K₇, ?_⟩, c₇, off, fpk c₇⟩
        rw [plF_next hcc, hl, Option.filter_some, if_pos (decide_eq_true hst), List.map_append]
        exact ints_snoc a4 _ _
      · rw [decide_eq_false (show ¬ ((p : Nat) : Int) > (st : Nat) by (exact ol17 hst)), if_neg (by decide), if_neg (by decide)]
        refine ⟨_, ⟨rfl, b1, b2, K.trans K₅, ?_⟩, c₅, off, fpk c₅⟩
        rw [plF_next hcc, hl, Option.filter_some, if_neg (by simpa using Nat.not_lt.mp hst)]
        simpa using a4
  · rintro D' k vs news s₃ ⟨rfl, a1, a2, K, a4⟩ hD' c₃ off
    rw [List.size_toArray, H.1] at a4
    refine h s₃ D' k vs (c₃.drop fun p hp => ?_) a1 a2 (fun p hp => off p (.tail _ hp)) ?_ a4
    · cases hp with
      | head => exact .head _
      | tail _ hp => exact .tail _ (.tail _ hp)
    · refine Nat.le_trans hIL5 (Nat.le_trans ?_ hD')
      show I ≤ hp.objs.size
      rw [hsz2]; exact Nat.le_succ _
end
end Mine
end

section
open PySem PySem.W PySem.Calls PyProof.Rows
set_option maxRecDepth 100000
set_option maxHeartbeats 8000000
namespace Mine
noncomputable abbrev tx (x : Str) : List Nat := x.cps.toList
structure WN (q : Str × Str) : Prop where
  w : ∀ c ∈ tx q.1, isW c = true
  n : ∀ c ∈ tx q.2, isW c = false
  ne : tx q.2 ≠ []
structure Good (ps : List (Str × Str)) : Prop where
  all : ∀ q ∈ ps, WN q
  tail : ∀ q ∈ ps.tail, tx q.1 ≠ []
theorem flat_cons (q : Str × Str) (ps : List (Str × Str)) : flat (q :: ps) = tx q.1 ++ tx q.2 ++ flat ps := by simp [flat, List.flatMap_cons]
theorem flat_append (a b : List (Str × Str)) : flat (a ++ b) = flat a ++ flat b := by simp [flat, List.flatMap_append]
noncomputable def posP (ps : List (Str × Str)) (k : Nat) : Nat := (flat (ps.take k)).length
theorem wn_len {q : Str × Str} (h : WN q) : 1 ≤ (tx q.2).length := by
  cases e : tx q.2 with
  | nil => exact absurd e h.ne
  | cons a b => simp
theorem pos_step {ps : List (Str × Str)} (h : ∀ q ∈ ps, WN q) {k : Nat} (hk : k < ps.length) : posP ps k < posP ps (k + 1) := by
  unfold posP
  rw [List.take_succ_eq_append_getElem hk, flat_append, List.length_append]
  have := wn_len (h _ (List.getElem_mem hk))
  have e : flat [ps[k]] = tx ps[k].1 ++ tx ps[k].2 := by rw [flat_cons]; simp [flat]
  rw [e, List.length_append]
  (exact om314 hk this)
theorem pos_mono {ps : List (Str × Str)} (h : ∀ q ∈ ps, WN q) {j : Nat} : ∀ {k : Nat}, j < k → k ≤ ps.length → posP ps j < posP ps k
  | 0, h1, _ => absurd h1 (Nat.not_lt_zero _)
  | k + 1, h1, h2 => by
    have h3 := pos_step h (k := k) (by assumption)
    rcases Nat.lt_or_ge j k with h4 | h4
    · exact Nat.lt_trans (pos_mono h h4 (by (exact Nat.le_of_lt (by assumption)))) h3
    · rw [show j = k by (exact om71 h1 h4)]; exact h3
theorem pos_le {ps : List (Str × Str)} (h : ∀ q ∈ ps, WN q) {j k : Nat} (h1 : j ≤ k) (h2 : k ≤ ps.length) : posP ps j ≤ posP ps k := by
  rcases Nat.lt_or_ge j k with h4 | h4
  · exact Nat.le_of_lt (pos_mono h h4 h2)
  · rw [show j = k by (exact om315 h1 h4)]; exact Nat.le_refl _
theorem seam_at {sg x : List Nat} {p : Nat} (h : seam sg x p = true) : ∃ c b, x[p]? = some c ∧ x[p - 1]? = some b ∧ isW c = true ∧ isW b = false ∧ (sg == [] || (sg == [c] || sg == [b])) = true := by
  unfold seam at h
  cases h1 : x[p]? with
  | none => rw [h1] at h; cases h
  | some c =>
    cases h2 : x[p - 1]? with
    | none => rw [h1, h2] at h; cases h
    | some b =>
      rw [h1, h2] at h
      dsimp only at h
      rw [Bool.and_eq_true, Bool.and_eq_true] at h
      exact ⟨c, b, rfl, rfl, h.1.1, by simpa using h.1.2, h.2⟩
theorem seam_piece {sg : List Nat} : ∀ {ps : List (Str × Str)} {p : Nat}, (∀ q ∈ ps, WN q) → seam sg (flat ps) p = true → ∃ k, 1 ≤ k ∧ k < ps.length ∧ p = posP ps k
  | [], p, _, h => by
    obtain ⟨c, b, h1, _⟩ := seam_at h
    simp [flat] at h1
  | q :: r, p, hg, h => by
    obtain ⟨c, b, h1, h2, hc, hb, hs⟩ := seam_at h
    have hp := seam_lt h
    rw [flat_cons] at h1 h2
    have hq := hg q (.head _)
    rcases Nat.lt_trichotomy p (tx q.1 ++ tx q.2).length with h3 | h3 | h3
    · rw [List.getElem?_append_left h3] at h1
      rw [List.getElem?_append_left (by (exact om316 hp h3))] at h2
      rcases Nat.lt_or_ge p (tx q.1).length with h4 | h4
      · rw [List.getElem?_append_left (by (exact om316 hp h4))] at h2
        have := hq.w b (List.mem_of_getElem? h2)
        rw [hb] at this; cases this
      · rw [List.getElem?_append_right h4] at h1
        have := hq.n c (List.mem_of_getElem? h1)
        rw [hc] at this; cases this
    · refine ⟨1, Nat.le_refl _, ?_, ?_⟩
      · cases r with
        | nil =>
          rw [List.getElem?_append_right (by (exact om317 h3))] at h1
          simp [flat] at h1
        | cons a b => simp
      · unfold posP
        rw [List.take_succ_cons, List.take_zero, flat_cons]
        simpa [flat] using h3
    · have h5 : seam sg (flat r) (p - (tx q.1 ++ tx q.2).length) = true := by
        rw [List.getElem?_append_right (by (exact Nat.le_of_lt (by assumption)))] at h1
        rw [List.getElem?_append_right (by (exact om318 hp h3))] at h2
        unfold seam
        rw [h1, show p - (tx q.1 ++ tx q.2).length - 1 = p - 1 - (tx q.1 ++ tx q.2).length by (exact om319 h3), h2]
        dsimp only
        rw [hc, hb, hs]; rfl
      obtain ⟨k, k1, k2, k3⟩ := seam_piece (fun q hq => hg q (.tail _ hq)) h5
      refine ⟨k + 1, by (exact Nat.zero_lt_succ _), by simp; assumption, ?_⟩
      unfold posP at k3 ⊢
      rw [List.take_succ_cons, flat_cons, List.length_append]
      (exact om320 h3 k3)
theorem split_at {ps : List (Str × Str)} {k : Nat} (h1 : 1 ≤ k) (h2 : k < ps.length) : ∃ A a b B, ps = A ++ a :: b :: B ∧ A.length + 1 = k ∧ ps[k - 1]? = some a ∧ ps[k]? = some b := by
  refine ⟨ps.take (k - 1), ps[k - 1], ps[k], ps.drop (k + 1), ?_, ?_, ?_, ?_⟩
  · have e1 : ps.drop (k - 1) = ps[k - 1] :: ps.drop (k - 1 + 1) := List.drop_eq_getElem_cons (by (exact om321 h1 h2))
    have e2 : ps.drop k = ps[k] :: ps.drop (k + 1) := List.drop_eq_getElem_cons h2
    rw [show k - 1 + 1 = k by (exact om322 h1)] at e1
    rw [← e2, ← e1, List.take_append_drop]
  · rw [List.length_take]; (exact om323 h1 h2)
  · exact List.getElem?_eq_getElem (by (exact om321 h1 h2))
  · exact List.getElem?_eq_getElem h2
theorem head_some {l : List Nat} (h : l ≠ []) : ∃ a, l.head? = some a ∧ a ∈ l ∧ l[0]? = some a := by
  cases l with
  | nil => exact absurd rfl h
  | cons a b => exact ⟨a, rfl, .head _, rfl⟩
theorem last_some {l : List Nat} (h : l ≠ []) : ∃ a, l.getLast? = some a ∧ a ∈ l ∧ l[l.length - 1]? = some a := by
  refine ⟨l.getLast h, List.getLast?_eq_some_getLast h, List.getLast_mem h, ?_⟩
  rw [← List.getLast?_eq_getElem?]
  exact List.getLast?_eq_some_getLast h
theorem seam_between {sg : List Nat} {ps : List (Str × Str)} {k : Nat} (G : Good ps) (h1 : 1 ≤ k) (h2 : k < ps.length) :
    ∃ a b h l, ps[k - 1]? = some a ∧ ps[k]? = some b ∧ (tx b.1).head? = some h ∧ isW h = true ∧ (tx a.2).getLast? = some l ∧ isW l = false ∧ seam sg (flat ps) (posP ps k) = (sg == [] || (sg == [h] || sg == [l])) := by
  obtain ⟨A, a, b, B, e, hA, ha, hb⟩ := split_at h1 h2
  have ma : a ∈ ps := List.mem_of_getElem? ha
  have mb : b ∈ ps := List.mem_of_getElem? hb
  have mt : b ∈ ps.tail := by
    rw [e]
    cases A with
    | nil => exact .head _
    | cons x A => exact List.mem_append_right _ (.tail _ (.head _))
  obtain ⟨h, e1, e2, e3⟩ := head_some (G.tail b mt)
  obtain ⟨l, f1, f2, f3⟩ := last_some (G.all a ma).ne
  have wh := (G.all b mb).w h e2
  have wl := (G.all a ma).n l f2
  refine ⟨a, b, h, l, ha, hb, e1, wh, f1, wl, ?_⟩
  have ep : posP ps k = (flat A).length + (tx a.1).length + (tx a.2).length := by
    unfold posP
    rw [e, show A ++ a :: b :: B = (A ++ [a]) ++ b :: B by simp, List.take_left' (by simp; assumption), flat_append, List.length_append, flat_cons]
    simp [flat]
    (exact om324)
  have ef : flat ps = (flat A ++ tx a.1) ++ (tx a.2 ++ (tx b.1 ++ (tx b.2 ++ flat B))) := by
    rw [e, flat_append, flat_cons, flat_cons]; simp
  have hl : 1 ≤ (tx a.2).length := wn_len (G.all a ma)
  have g1 : (flat ps)[posP ps k]? = some h := by
    rw [ep, ef, List.getElem?_append_right (by rw [List.length_append]; (exact om325 hl)), List.getElem?_append_right (by rw [List.length_append]; (exact om326 hl)), List.getElem?_append_left]
    · rw [show (flat A).length + (tx a.1).length + (tx a.2).length - (flat A ++ tx a.1).length - (tx a.2).length = 0 by rw [List.length_append]; (exact om327)]
      exact e3
    · have : 1 ≤ (tx b.1).length := by
        cases q : tx b.1 with
        | nil => exact absurd q (G.tail b mt)
        | cons x y => simp
      rw [List.length_append]; (exact om328 this)
  have g2 : (flat ps)[posP ps k - 1]? = some l := by
    rw [ep, ef, List.getElem?_append_right (by rw [List.length_append]; (exact om329 ep hl)), List.getElem?_append_left (by rw [List.length_append]; (exact om330 hl))]
    rw [show (flat A).length + (tx a.1).length + (tx a.2).length - 1 - (flat A ++ tx a.1).length = (tx a.2).length - 1 by rw [List.length_append]; (exact om331 hl)]
    exact f3
  unfold seam
  rw [g1, g2]
  dsimp only
  rw [wh, wl]
  rfl
theorem any_seam {ps : List (Str × Str)} {k : Nat} (G : Good ps) (h1 : 1 ≤ k) (h2 : k < ps.length) : seam [] (flat ps) (posP ps k) = true := by
  obtain ⟨a, b, h, l, ha, hb, e1, wh, f1, wl, e⟩ := seam_between (sg := []) G h1 h2
  rw [e]; rfl
end Mine
end

section
open PySem PySem.W PySem.Calls PyProof.Rows
set_option maxRecDepth 100000
set_option maxHeartbeats 8000000
namespace Mine
theorem findK_someP {c : Nat} {ps : List (Str × Str)} : ∀ {n k : Nat}, findK c ps n = some k → 1 ≤ k ∧ k ≤ n ∧ hitAt c ps k = true ∧ ∀ j, k < j → j ≤ n → hitAt c ps j = false
  | 0, _, h => by cases h
  | n + 1, k, h => by
    unfold findK at h
    cases hh : hitAt c ps (n + 1) with
    | true => rw [hh, if_pos rfl] at h; cases h; exact ⟨by (exact Nat.zero_lt_succ _), Nat.le_refl _, hh, fun j a b => absurd a (by (exact Nat.not_lt.mpr (by assumption)))⟩
    | false =>
      rw [hh, if_neg (by decide)] at h
      obtain ⟨a, b, d, e⟩ := findK_someP h
      refine ⟨a, by (exact Nat.le_succ_of_le (by assumption)), d, fun j j1 j2 => ?_⟩
      rcases Nat.lt_or_ge n j with q | q
      · rw [show j = n + 1 by (exact om335 j2 q)]; exact hh
      · exact e j j1 q
theorem findK_noneP {c : Nat} {ps : List (Str × Str)} : ∀ {n : Nat}, findK c ps n = none → ∀ j, 1 ≤ j → j ≤ n → hitAt c ps j = false
  | 0, _, j, a, b => absurd a (by (exact Nat.not_lt.mpr (by assumption)))
  | n + 1, h, j, a, b => by
    unfold findK at h
    cases hh : hitAt c ps (n + 1) with
    | true => rw [hh, if_pos rfl] at h; cases h
    | false =>
      rw [hh, if_neg (by decide)] at h
      rcases Nat.lt_or_ge n j with q | q
      · rw [show j = n + 1 by (exact om335 b q)]; exact hh
      · exact findK_noneP h j a q
theorem hitAt_append {c : Nat} {ps qs : List (Str × Str)} {k : Nat} (h : k < ps.length) : hitAt c (ps ++ qs) k = hitAt c ps k := by
  unfold hitAt
  rw [List.getElem?_append_left h, List.getElem?_append_left (show k - 1 < ps.length by (exact om336 h))]
theorem hitAt_drop {c : Nat} {ps : List (Str × Str)} {k j : Nat} (h : 1 ≤ j) : hitAt c (ps.drop k) j = hitAt c ps (k + j) := by
  unfold hitAt
  rw [List.getElem?_drop, List.getElem?_drop, show k + (j - 1) = k + j - 1 by (exact om337 h)]
theorem pos_append {ps qs : List (Str × Str)} {k : Nat} (h : k ≤ ps.length) : posP (ps ++ qs) k = posP ps k := by
  unfold posP
  rw [List.take_append_of_le_length h]
theorem pos_all (ps : List (Str × Str)) : posP ps ps.length = (flat ps).length := by
  unfold posP
  rw [List.take_length]
theorem Good.drop {ps : List (Str × Str)} (G : Good ps) (k : Nat) : Good (ps.drop k) := by
  refine ⟨fun q hq => G.all q (List.mem_of_mem_drop hq), fun q hq => G.tail q ?_⟩
  rw [List.tail_drop] at hq
  rw [← List.drop_one]
  rw [show k + 1 = 1 + k by (exact om338), ← List.drop_drop] at hq
  exact List.mem_of_mem_drop hq
section
variable {c : Nat} {ps : List (Str × Str)} {k n : Nat}
theorem lbe_some (G : Good ps) (h1 : 1 ≤ k) (h2 : k < ps.length) (hn : posP ps k < n) (hj : ∀ j, k < j → j < ps.length → n ≤ posP ps j) : lastBelow [] (flat ps) n = some (posP ps k) := by
  refine lastBelow_some (any_seam G h1 h2) hn fun m m1 m2 => ?_
  cases hs : seam [] (flat ps) m with
  | false => rfl
  | true =>
    obtain ⟨j, j1, j2, rfl⟩ := seam_piece G.all hs
    rcases Nat.lt_or_ge k j with q | q
    · have := hj j q j2; (exact (om339 m2 this).elim)
    · have := pos_le G.all q (Nat.le_of_lt h2); (exact (om339 m1 this).elim)
theorem lbe_none (G : Good ps) (hj : ∀ j, 1 ≤ j → j < ps.length → n ≤ posP ps j) : lastBelow [] (flat ps) n = none := by
  refine lastBelow_none fun m m2 => ?_
  cases hs : seam [] (flat ps) m with
  | false => rfl
  | true =>
    obtain ⟨j, j1, j2, rfl⟩ := seam_piece G.all hs
    have := hj j j1 j2; (exact (om339 m2 this).elim)
theorem flat_cut (ps : List (Str × Str)) (k : Nat) : (flat ps).take (posP ps k) = flat (ps.take k) ∧ (flat ps).drop (posP ps k) = flat (ps.drop k) := by
  have e : flat ps = flat (ps.take k) ++ flat (ps.drop k) := by rw [← flat_append, List.take_append_drop]
  unfold posP
  constructor
  · conv => lhs; rw [e]
    exact List.take_left' rfl
  · conv => lhs; rw [e]
    exact List.drop_left' rfl
variable {W N : Nat}
end
end Mine
end

section
open PySem PySem.W PySem.Calls PyProof.Rows
set_option maxRecDepth 100000
set_option maxHeartbeats 8000000
namespace Mine
theorem flat_head {q : Str × Str} {r : List (Str × Str)} (hq : WN q) (hne : tx q.1 ≠ []) : ∃ h, (flat (q :: r)).head? = some h ∧ isW h = true := by
  obtain ⟨h, e1, e2, e3⟩ := head_some hne
  refine ⟨h, ?_, hq.w h e2⟩
  rw [flat_cons]
  cases e : tx q.1 with
  | nil => exact absurd e hne
  | cons a b => rw [e] at e1; exact e1
theorem flat_head0 {q : Str × Str} {r : List (Str × Str)} (hq : WN q) (hne : tx q.1 = []) : ∃ h, (flat (q :: r)).head? = some h ∧ isW h = false := by
  obtain ⟨h, e1, e2, e3⟩ := head_some hq.ne
  refine ⟨h, ?_, hq.n h e2⟩
  rw [flat_cons, hne]
  cases e : tx q.2 with
  | nil => exact absurd e hq.ne
  | cons a b => rw [e] at e1; exact e1
theorem ofL_nil_iff (x : Str) : x = ofL [] ↔ tx x = [] := by
  constructor
  · rintro rfl; rfl
  · intro h
    rw [← ofL_toList x]
    exact congrArg ofL h
variable {c W : Nat}
theorem sizes_flat (ps : List (Str × Str)) : sizes ps = ((flat ps).length : Int) := (flat_length ps).symm
end Mine
end

section
open PySem PySem.W PySem.Calls PyProof.Rows
set_option maxRecDepth 100000
set_option maxHeartbeats 8000000
namespace Mine
theorem space_of_white {c : Nat} (h : isW c = true) : Unicode.isSpace c = true := by
  unfold isW at h
  rw [Bool.or_eq_true] at h
  rcases h with h | h
  · rw [eq_of_beq h]; decide
  · rw [eq_of_beq h]; decide
theorem hit_seam' {c : Nat} {ps : List (Str × Str)} {k : Nat} (G : Good ps) (h1 : 1 ≤ k) (h2 : k < ps.length) : seam [c] (flat ps) (posP ps k) = hitAt c ps k := by
  obtain ⟨a, b, h, l, ha, hb, e1, wh, f1, wl, e⟩ := seam_between (sg := [c]) G h1 h2
  rw [e]
  unfold hitAt
  rw [ha, hb]
  simp only [Option.bind_some]
  rw [show b.1.cps.toList.head? = some h from e1, show a.2.cps.toList.getLast? = some l from f1]
  have key : (([c] : List Nat) == [] || (([c] : List Nat) == [h] || ([c] : List Nat) == [l])) = true ↔ (c = h ∨ c = l) := by simp
  have key2 : ((Unicode.isSpace c && (some h == some c)) || (some l == some c)) = true ↔ ((Unicode.isSpace c = true ∧ h = c) ∨ l = c) := by simp
  rw [Bool.eq_iff_iff, key, key2]
  constructor
  · rintro (rfl | rfl)
    · exact .inl ⟨space_of_white wh, rfl⟩
    · exact .inr rfl
  · rintro (⟨_, rfl⟩ | rfl)
    · exact .inl rfl
    · exact .inr rfl
theorem lastBelow_seam2 {sg X : List Nat} : ∀ {n p : Nat}, lastBelow sg X n = some p → p < n ∧ seam sg X p = true
  | 0, _, h => by cases h
  | n + 1, p, h => by
    unfold lastBelow at h
    cases hs : seam sg X n with
    | true => rw [hs, if_pos rfl] at h; cases h; exact ⟨Nat.lt_succ_self _, hs⟩
    | false => rw [hs, if_neg (by decide)] at h; obtain ⟨a, b⟩ := lastBelow_seam2 h; exact ⟨Nat.le_succ_of_le a, b⟩
noncomputable def placeOf (sgs r : List Nat) (col start : Nat) : Option Nat := sgs.findSome? fun c => (lastBelow [c] r (col + 1)).filter fun p => decide (start < p)
noncomputable def nextSeam (r : List Nat) (col : Nat) : Nat := (seamFrom [] r (col + 1)).getD r.length
noncomputable def putBlank (r : List Nat) (p : Nat) : List Nat := match r.drop p with
  | [] => r
  | c :: _ => if isW c then r else 32 :: r
noncomputable def rows2 (sgs : List Nat) (W : Nat) : Nat → Bool → List Nat → Nat → Nat → Nat → List (List Nat)
  | 0, _, r, start, _, _ => [r.drop start]
  | n + 1, hb, r, start, laid, room =>
    if r.length ≤ max laid (start + room) then [r.drop start]
    else match (placeOf sgs r (max laid (start + room)) start).or (if hb then some ((lastBelow [] r (max laid (start + room) + 1)).getD 0) else none) with
      | none => rows2 sgs W n hb r start (nextSeam r (max laid (start + room))) room
      | some p => (r.drop start).take (p - start) :: rows2 sgs W n false (putBlank r p) p (nextSeam r (max laid (start + room))) W
theorem rows2_laid {sgs : List Nat} {W n : Nat} {hb : Bool} {r : List Nat} {start laid laid' room : Nat} (h : max laid (start + room) = max laid' (start + room)) : rows2 sgs W n hb r start laid room = rows2 sgs W n hb r start laid' room := by
  cases n with
  | zero => rfl
  | succ n => unfold rows2; rw [h]
section
variable {ps : List (Str × Str)} {n b m c : Nat}
theorem place_one (G : Good ps) (hm : m < ps.length) (hbm : b ≤ m) (hn : ∀ j, 1 ≤ j → j < ps.length → (posP ps j < n ↔ j ≤ m)) :
    ((lastBelow [c] (flat ps) n).filter fun p => decide (posP ps b < p)) = (findK c (ps.drop b) (m - b)).map fun k => posP ps (b + k) := by
  have hitD : ∀ k, 1 ≤ k → hitAt c (ps.drop b) k = hitAt c ps (b + k) := fun k h => hitAt_drop h
  cases hf : findK c (ps.drop b) (m - b) with
  | some k =>
    obtain ⟨k1, k2, kh, kl⟩ := findK_someP hf
    rw [hitD k k1] at kh
    have hk : b + k ≤ m := by (exact ol78 hbm k2)
    have hkl : b + k < ps.length := Nat.lt_of_le_of_lt hk hm
    rw [lastBelow_some (p := posP ps (b + k)) (by rw [hit_seam' G (by (exact ol79 k1)) hkl]; exact kh) ((hn _ (by (exact ol79 k1)) hkl).mpr hk) fun q q1 q2 => ?_]
    · rw [Option.filter_some, if_pos (decide_eq_true (pos_mono G.all (by (exact ol80 k1)) (Nat.le_of_lt hkl)))]; rfl
    · cases hs : seam [c] (flat ps) q with
      | false => rfl
      | true =>
        obtain ⟨j, j1, j2, rfl⟩ := seam_piece G.all hs
        rw [hit_seam' G j1 j2] at hs
        have hjm := (hn j j1 j2).mp q2
        rcases Nat.lt_or_ge (b + k) j with h | h
        · have := kl (j - b) (by (exact ol81 k1 h)) (by (exact ol82 hbm k1 hjm h))
          rw [hitD _ (by (exact ol83 k1 h)), show b + (j - b) = j by (exact ol84 k1 h), hs] at this; cases this
        · have := pos_le G.all h (Nat.le_of_lt hkl); (exact (ol85 q1 this).elim)
  | none =>
    have no := fun j j1 j2 => findK_noneP hf j j1 j2
    cases hl : lastBelow [c] (flat ps) n with
    | none => rfl
    | some p =>
      obtain ⟨p1, p2⟩ := lastBelow_seam2 hl
      obtain ⟨j, j1, j2, rfl⟩ := seam_piece G.all p2
      rw [hit_seam' G j1 j2] at p2
      have hjm := (hn j j1 j2).mp p1
      rcases Nat.lt_or_ge b j with h | h
      · have := no (j - b) (by (exact ol86 h)) (by (exact ol87 hbm hjm h))
        rw [hitD _ (by (exact ol86 h)), show b + (j - b) = j by (exact ol88 h), p2] at this; cases this
      · have := pos_le G.all h (Nat.le_of_lt (Nat.lt_of_le_of_lt hbm hm))
        rw [Option.filter_some, if_neg (by simpa using this)]; rfl
theorem place_all {sgs : List Nat} {col : Nat} (G : Good ps) (hm : m < ps.length) (hbm : b ≤ m) (hn : ∀ j, 1 ≤ j → j < ps.length → (posP ps j < col + 1 ↔ j ≤ m)) :
    placeOf sgs (flat ps) col (posP ps b) = (sgs.findSome? fun c => findK c (ps.drop b) (m - b)).map fun k => posP ps (b + k) := by
  unfold placeOf
  induction sgs with
  | nil => rfl
  | cons c r ih =>
    rw [List.findSome?_cons, List.findSome?_cons, place_one G hm hbm hn]
    cases findK c (ps.drop b) (m - b) with
    | some k => rfl
    | none => exact ih
theorem next_at {col : Nat} (G : Good ps) (hm : m < ps.length) (hn : ∀ j, 1 ≤ j → j < ps.length → (posP ps j < col + 1 ↔ j ≤ m)) : nextSeam (flat ps) col = posP ps (m + 1) := by
  unfold nextSeam
  cases hs : seamFrom [] (flat ps) (col + 1) with
  | none =>
    rw [Option.getD_none]
    rcases Nat.lt_or_ge (m + 1) ps.length with h | h
    · exfalso
      have h1 : ¬ posP ps (m + 1) < col + 1 := fun q => by have := (hn _ (by (exact Nat.zero_lt_succ _)) h).mp q; (exact ol89 this)
      have h2 := any_seam G (by (exact Nat.zero_lt_succ _)) h
      have h3 := seam_lt h2
      have := firstSeam_none (by exact hs) (posP ps (m + 1)) (by (exact ol90 h1)) (by (exact ol91 h3))
      rw [h2] at this; cases this
    · rw [show m + 1 = ps.length by (exact ol92 hm h), pos_all]
  | some p =>
    rw [Option.getD_some]
    obtain ⟨p1, p2, p3, p4⟩ := firstSeam_some (by exact hs)
    obtain ⟨j, j1, j2, rfl⟩ := seam_piece G.all p3
    have hj : m < j := by
      rcases Nat.lt_or_ge m j with h | h
      · exact h
      · have := (hn j j1 j2).mpr h; (exact ol93 p1 p2 this)
    rcases Nat.lt_or_ge (m + 1) j with h | h
    · exfalso
      have hm1 : m + 1 < ps.length := by (exact ol94 hm j2 h)
      have h1 : ¬ posP ps (m + 1) < col + 1 := fun q => by have := (hn _ (by (exact Nat.zero_lt_succ _)) hm1).mp q; (exact ol89 this)
      have h2 := any_seam G (by (exact Nat.zero_lt_succ _)) hm1
      have h3 := seam_lt h2
      have := p4 (posP ps (m + 1)) (by (exact ol95 p1 p2 h1)) (pos_mono G.all h (Nat.le_of_lt j2))
      rw [h2] at this; cases this
    · rw [show m + 1 = j by (exact ol92 hj h)]
theorem last_any {col : Nat} (G : Good ps) (hm : m < ps.length) (hn : ∀ j, 1 ≤ j → j < ps.length → (posP ps j < col + 1 ↔ j ≤ m)) : (lastBelow [] (flat ps) (col + 1)).getD 0 = posP ps m := by
  rcases Nat.eq_zero_or_pos m with rfl | h0
  · rw [lbe_none G fun j j1 j2 => ?_]
    · rfl
    · rcases Nat.lt_or_ge (posP ps j) (col + 1) with h | h
      · have := (hn j j1 j2).mp h; (exact ol96 j1 this)
      · exact h
  · rw [lbe_some G h0 hm ((hn m h0 hm).mpr (Nat.le_refl _)) fun j j1 j2 => ?_]
    · rfl
    · rcases Nat.lt_or_ge (posP ps j) (col + 1) with h | h
      · have := (hn j (by (exact ol97 h0 j1)) j2).mp h; (exact ol98 j1 this)
      · exact h
theorem col_in {col : Nat} (G : Good ps) (hm : m < ps.length) (h1 : posP ps m ≤ col) (h2 : col < posP ps (m + 1)) : ∀ j, 1 ≤ j → j < ps.length → (posP ps j < col + 1 ↔ j ≤ m) := fun j j1 j2 => by
  constructor
  · intro h
    rcases Nat.lt_or_ge m j with q | q
    · have := pos_le G.all (show m + 1 ≤ j from q) (Nat.le_of_lt j2); (exact ol99 h2 h this)
    · exact q
  · intro h
    have := pos_le G.all h (Nat.le_of_lt hm); (exact ol100 h1 this)
theorem put_white {p : Nat} (h : ∃ q, (flat ps).drop p = q ∧ ∃ x, q.head? = some x ∧ isW x = true) : putBlank (flat ps) p = flat ps := by
  obtain ⟨q, e, x, h1, h2⟩ := h
  unfold putBlank
  rw [e]
  cases q with
  | nil => cases h1
  | cons a r => cases h1; dsimp only; rw [if_pos h2]
theorem put_seam (G : Good ps) {j : Nat} (j1 : 1 ≤ j) (j2 : j < ps.length) : putBlank (flat ps) (posP ps j) = flat ps := by
  have hs := any_seam G j1 j2
  obtain ⟨x, y, e1, e2, h1, h2, _⟩ := seam_at hs
  refine put_white ⟨_, rfl, x, ?_, h1⟩
  rw [List.head?_drop]; exact e1
theorem cut_mid {i j : Nat} (h : i ≤ j) : ((flat ps).drop (posP ps i)).take (posP ps j - posP ps i) = flat ((ps.drop i).take (j - i)) := by
  rw [(flat_cut ps i).2]
  have e : posP ps j - posP ps i = posP (ps.drop i) (j - i) := by
    unfold posP
    have : ps.take j = ps.take i ++ (ps.drop i).take (j - i) := by
      conv => lhs; rw [show j = i + (j - i) by (exact ol101 h), List.take_add]
    rw [this, flat_append, List.length_append]
    (exact ol102)
  rw [e, (flat_cut _ _).1]
end
end Mine
end

section
open PySem PySem.W PySem.Calls PyProof.Rows
set_option maxRecDepth 100000
set_option maxHeartbeats 8000000
namespace Mine
section
variable {W : Nat} {sgs : List Nat}
theorem chunkS_fit {lines : List Str} {ps : List (Str × Str)} {i : Nat} {q : Str × Str} (h : i + (flat (ps ++ [q])).length ≤ W) : chunk (W : Int) sgs (lines, ps, (i : Int)) q = (lines, ps ++ [q], (i : Int)) := by
  unfold chunk
  dsimp only
  rw [if_pos (by rw [sizes_flat]; (exact ol103 h))]
theorem chunkS_hit {lines : List Str} {ps : List (Str × Str)} {i k : Nat} {q : Str × Str} (h : ¬ i + (flat (ps ++ [q])).length ≤ W) (hf : findAll sgs (ps ++ [q]) = some k) : chunk (W : Int) sgs (lines, ps, (i : Int)) q = (lines ++ [ofL (flat ((ps ++ [q]).take k))], (ps ++ [q]).drop k, 0) := by
  unfold chunk
  dsimp only
  rw [if_neg (by rw [sizes_flat]; (exact ol104 h)), hf]
theorem chunkS_none0 {lines : List Str} {ps : List (Str × Str)} {q : Str × Str} (h : ¬ (flat (ps ++ [q])).length ≤ W) (hf : findAll sgs (ps ++ [q]) = none) : chunk (W : Int) sgs (lines, ps, 0) q = (lines, ps ++ [q], 0) := by
  unfold chunk
  dsimp only
  rw [if_neg (by rw [sizes_flat]; (exact ol105 h)), hf]
  dsimp only
  rw [if_neg (by decide)]
theorem chunkS_none1 {lines : List Str} {ps : List (Str × Str)} {i : Nat} {q : Str × Str} (h0 : 0 < i) (h : ¬ i + (flat (ps ++ [q])).length ≤ W) (hf : findAll sgs (ps ++ [q]) = none) : chunk (W : Int) sgs (lines, ps, (i : Int)) q = (lines ++ [ofL (flat ps)], [(if q.1 = ofL [] then ofL [32] else q.1, q.2)], 0) := by
  unfold chunk
  dsimp only
  rw [if_neg (by rw [sizes_flat]; (exact ol104 h)), hf]
  dsimp only
  rw [if_pos (by (exact ol36 h0))]
theorem findAll_some {cs : List Nat} {ps : List (Str × Str)} {k : Nat} (h : findAll cs ps = some k) : 1 ≤ k ∧ k ≤ ps.length - 1 := by
  unfold findAll at h
  obtain ⟨c, _, e⟩ := List.exists_of_findSome?_eq_some h
  obtain ⟨a, b, _⟩ := findK_someP e
  exact ⟨a, b⟩
theorem findK_prefix {c : Nat} {ps qs : List (Str × Str)} : ∀ {n : Nat}, n < ps.length → findK c (ps ++ qs) n = findK c ps n
  | 0, _ => rfl
  | n + 1, h => by
    unfold findK
    rw [hitAt_append h, findK_prefix (Nat.lt_of_succ_lt h)]
theorem look {base ps qs : List (Str × Str)} {q : Str × Str} {room : Nat} (G : Good (base ++ (ps ++ q :: qs))) (h : room < (flat (ps ++ [q])).length) :
    let P := base ++ (ps ++ q :: qs)
    let col := max (flat (base ++ ps)).length ((flat base).length + room)
    (flat P).length > col ∧ placeOf sgs (flat P) col (flat base).length = (findAll sgs (ps ++ [q])).map (fun k => posP P (base.length + k)) ∧ nextSeam (flat P) col = (flat (base ++ (ps ++ [q]))).length ∧ (lastBelow [] (flat P) (col + 1)).getD 0 = (flat (base ++ ps)).length := by
  intro P col
  have e0 : P = (base ++ ps) ++ (q :: qs) := by simp [P]
  have e1 : P = (base ++ (ps ++ [q])) ++ qs := by simp [P]
  have hm : base.length + ps.length < P.length := by simp [P]
  have p0 : posP P base.length = (flat base).length := by rw [pos_append (Nat.le_refl _), pos_all]
  have p1 : posP P (base.length + ps.length) = (flat (base ++ ps)).length := by
    rw [e0, ← List.length_append, pos_append (Nat.le_refl _), pos_all]
  have hl : (base ++ (ps ++ [q])).length = base.length + ps.length + 1 := by simp; (exact ol106)
  have p2 : posP P (base.length + ps.length + 1) = (flat (base ++ (ps ++ [q]))).length := by
    rw [e1, ← hl, pos_append (Nat.le_refl _), pos_all]
  have f1 : (flat (base ++ ps)).length = (flat base).length + (flat ps).length := by rw [flat_append, List.length_append]
  have f2 : (flat (base ++ (ps ++ [q]))).length = (flat base).length + (flat (ps ++ [q])).length := by rw [flat_append, List.length_append]
  have hs := pos_step G.all hm
  have c1 : posP P (base.length + ps.length) ≤ col := by rw [p1]; exact Nat.le_max_left _ _
  have c2 : col < posP P (base.length + ps.length + 1) := by
    rw [p1] at hs
    rw [p2] at hs ⊢
    exact Nat.max_lt.mpr ⟨hs, by (exact ol107 h f1 f2)⟩
  have hn := col_in G hm c1 c2
  refine ⟨?_, ?_, ?_, ?_⟩
  · have := pos_le G.all (show base.length + ps.length + 1 ≤ P.length from hm) (Nat.le_refl _)
    rw [pos_all] at this; exact Nat.lt_of_lt_of_le c2 this
  · rw [← p0, place_all G hm (Nat.le_add_right _ _) hn]
    congr 1
    unfold findAll
    have e3 : P.drop base.length = (ps ++ [q]) ++ qs := by simp [P]
    rw [show base.length + ps.length - base.length = ps.length by (exact ol102), e3]
    have hl2 : (ps ++ [q]).length - 1 = ps.length := by simp
    rw [hl2]
    congr 1
    funext c
    exact findK_prefix (by simp)
  · rw [next_at G hm hn, p2]
  · rw [last_any G hm hn, p1]
theorem claimS : ∀ (qs ps base : List (Str × Str)) (lines : List Str) (n : Nat), Good (base ++ (ps ++ qs)) → qs.length < n →
    ∃ lines' ps', qs.foldl (chunk (W : Int) sgs) (lines, ps, 0) = (lines', ps', 0) ∧ lines' ++ [ofL (flat ps')] = lines ++ (rows2 sgs W n false (flat (base ++ (ps ++ qs))) (flat base).length (flat (base ++ ps)).length W).map ofL
  | [], ps, base, lines, n, G, hn => by
    rw [List.append_nil] at G ⊢
    refine ⟨lines, ps, rfl, ?_⟩
    have hd : (flat (base ++ ps)).drop (flat base).length = flat ps := by rw [flat_append]; exact List.drop_left' rfl
    cases n with
    | zero => simp at hn
    | succ n =>
      unfold rows2
      rw [if_pos (Nat.le_max_left _ _), hd]
      rfl
  | q :: qs, ps, base, lines, n, G, hn => by
    rw [List.foldl_cons]
    have e1 : ps ++ q :: qs = (ps ++ [q]) ++ qs := by simp
    by_cases h1 : (flat (ps ++ [q])).length ≤ W
    · have := chunkS_fit (sgs := sgs) (lines := lines) (i := 0) (ps := ps) (q := q) (W := W) (by (exact ol108 h1))
      rw [show ((0 : Nat) : Int) = 0 from rfl] at this
      rw [this]
      rw [e1] at G
      obtain ⟨lines', ps', r1, r2⟩ := claimS qs (ps ++ [q]) base lines n G (Nat.lt_of_succ_lt hn)
      refine ⟨lines', ps', r1, ?_⟩
      rw [r2, e1]
      congr 2
      refine rows2_laid ?_
      have f1 : (flat (base ++ ps)).length = (flat base).length + (flat ps).length := by rw [flat_append, List.length_append]
      have f2 : (flat (base ++ (ps ++ [q]))).length = (flat base).length + (flat (ps ++ [q])).length := by rw [flat_append, List.length_append]
      have f3 : (flat ps).length ≤ (flat (ps ++ [q])).length := by rw [flat_append, List.length_append]; (exact ol109)
      (exact ol110 h1 f1 f2 f3)
    · obtain ⟨l1, l2, l3, _⟩ := look (sgs := sgs) (room := W) G (Nat.lt_of_not_le h1)
      obtain ⟨n', rfl⟩ : ∃ n', n = n' + 1 := ⟨n - 1, by (exact ol111 hn)⟩
      have hn' : qs.length < n' := by simpa using hn
      rw [rows2, if_neg (Nat.not_le.mpr l1), l2, l3]
      cases hf : findAll sgs (ps ++ [q]) with
      | none =>
        rw [chunkS_none0 h1 hf]
        rw [e1] at G
        obtain ⟨lines', ps', r1, r2⟩ := claimS qs (ps ++ [q]) base lines n' G hn'
        exact ⟨lines', ps', r1, by rw [r2, e1]; rfl⟩
      | some k =>
        have := chunkS_hit (sgs := sgs) (lines := lines) (i := 0) (ps := ps) (q := q) (W := W) (k := k) (by (exact ol112 h1)) hf
        rw [show ((0 : Nat) : Int) = 0 from rfl] at this
        rw [this]
        obtain ⟨k1, k2⟩ := findAll_some hf
        have hl1 : (ps ++ [q]).length = ps.length + 1 := by simp
        have eP : base ++ (ps ++ q :: qs) = (base ++ (ps ++ [q]).take k) ++ ((ps ++ [q]).drop k ++ qs) := by
          rw [e1, List.append_assoc base ((ps ++ [q]).take k), ← List.append_assoc ((ps ++ [q]).take k), List.take_append_drop]
        have htl : (base ++ (ps ++ [q]).take k).length = base.length + k := by
          rw [List.length_append, List.length_take]; (exact ol113 k2 hl1)
        have hpk : posP (base ++ (ps ++ q :: qs)) (base.length + k) = (flat (base ++ (ps ++ [q]).take k)).length := by
          rw [eP, ← htl, pos_append (Nat.le_refl _), pos_all]
        have hkP : base.length + k < (base ++ (ps ++ q :: qs)).length := by simp; (exact ol114 k2 hl1 htl)
        obtain ⟨lines', ps', r1, r2⟩ := claimS qs ((ps ++ [q]).drop k) (base ++ (ps ++ [q]).take k) (lines ++ [ofL (flat ((ps ++ [q]).take k))]) n' (by rw [← eP]; exact G) hn'
        refine ⟨lines', ps', r1, ?_⟩
        rw [r2, ← eP]
        simp only [Option.map_some, Option.some_or]
        rw [put_seam G (by (exact ol115 k1 htl)) hkP]
        have hrow : ((flat (base ++ (ps ++ q :: qs))).drop (flat base).length).take (posP (base ++ (ps ++ q :: qs)) (base.length + k) - (flat base).length) = flat ((ps ++ [q]).take k) := by
          have p0 : posP (base ++ (ps ++ q :: qs)) base.length = (flat base).length := by rw [pos_append (Nat.le_refl _), pos_all]
          have := cut_mid (ps := base ++ (ps ++ q :: qs)) (i := base.length) (j := base.length + k) (Nat.le_add_right _ _)
          rw [p0] at this
          rw [this, Nat.add_sub_cancel_left, List.drop_left, e1, List.take_append_of_le_length (by (exact ol116 k2 hl1 htl))]
        rw [hrow, hpk, List.map_cons, List.append_assoc lines, List.singleton_append]
        congr 3
        rw [show (base ++ (ps ++ [q]).take k) ++ (ps ++ [q]).drop k = base ++ (ps ++ [q]) by rw [List.append_assoc, List.take_append_drop]]
end
end Mine
end

section
open PySem PySem.W PySem.Calls PyProof.Rows
set_option maxRecDepth 100000
set_option maxHeartbeats 8000000
namespace Mine
section
variable {W : Nat} {sgs : List Nat}
theorem put_zero {q : Str × Str} {qs : List (Str × Str)} (hq : WN q) (hw : tx q.1 = []) : putBlank (flat (q :: qs)) 0 = flat ((ofL [32], q.2) :: qs) := by
  obtain ⟨hh, f1, f2⟩ := flat_head0 (r := qs) hq hw
  unfold putBlank
  rw [List.drop_zero]
  cases e : flat (q :: qs) with
  | nil => rw [e] at f1; cases f1
  | cons a r =>
    rw [e] at f1; cases f1
    dsimp only
    rw [if_neg (by rw [f2]; decide), ← e, flat_cons, flat_cons, hw]
    rfl
theorem idle {P : List (Str × Str)} {laid n : Nat} (G : Good P) (h0 : 0 < P.length) (h1 : laid + 1 = posP P 1) (hW : W ≤ laid) : rows2 sgs W (n + 1) false (flat P) 0 laid W = rows2 sgs W n false (flat P) 0 (posP P 1) W := by
  have hcol : max laid (0 + W) = laid := by (exact ol117 h1 hW)
  have hn := col_in (col := laid) G h0 (by have : posP P 0 = 0 := rfl; (exact Nat.zero_le _)) (by rw [Nat.zero_add, ← h1]; (exact Nat.lt_succ_self _))
  rw [rows2, hcol]
  have hle := pos_le G.all (show 1 ≤ P.length from h0) (Nat.le_refl _)
  rw [pos_all] at hle
  rw [if_neg (by (exact ol118 h1 hcol hle)), show (0 : Nat) = posP P 0 from rfl, place_all G h0 (Nat.le_refl _) hn, next_at G h0 hn]
  have : (sgs.findSome? fun c => findK c (P.drop 0) (0 - 0)) = none := by
    rw [List.findSome?_eq_none_iff]; intro c _; rfl
  rw [this]
  rfl
theorem phaseS {hd : Nat} (h0 : 0 < hd) (hW : hd ≤ W) : ∀ (qs ps : List (Str × Str)) (n : Nat), Good (ps ++ qs) → ps ++ qs ≠ [] → (ps = [] ∨ hd + (flat ps).length ≤ W) → qs.length + 1 < n →
    ∃ lines' ps' i', qs.foldl (chunk (W : Int) sgs) ([], ps, (hd : Int)) = (lines', ps', i') ∧ lines' ++ [ofL (flat ps')] = (rows2 sgs W n true (flat (ps ++ qs)) 0 (flat ps).length (W - hd)).map ofL
  | [], ps, n, G, hne, hinv, hn => by
    rw [List.append_nil] at G hne ⊢
    refine ⟨[], ps, _, rfl, ?_⟩
    obtain ⟨n', rfl⟩ : ∃ n', n = n' + 1 := ⟨n - 1, by (exact ol119 hn)⟩
    rw [rows2, if_pos (Nat.le_max_left _ _)]
    rfl
  | q :: qs, ps, n, G, hne, hinv, hn => by
    rw [List.foldl_cons]
    have e1 : ps ++ q :: qs = (ps ++ [q]) ++ qs := by simp
    have hn0 : qs.length + 2 < n := hn
    have hfit : (flat ps).length ≤ W - hd := by
      rcases hinv with rfl | h
      · exact Nat.zero_le _
      · (exact ol120 hW h)
    have f3 : (flat ps).length ≤ (flat (ps ++ [q])).length := by rw [flat_append, List.length_append]; (exact ol109)
    by_cases h1 : hd + (flat (ps ++ [q])).length ≤ W
    · rw [chunkS_fit h1]
      rw [e1] at G hne
      obtain ⟨lines', ps', i', r1, r2⟩ := phaseS h0 hW qs (ps ++ [q]) n G hne (.inr h1) (by (exact Nat.le_of_lt (by assumption)))
      refine ⟨lines', ps', i', r1, ?_⟩
      rw [r2, e1]
      congr 1
      exact rows2_laid (by (exact ol121 hW hfit h1))
    · obtain ⟨l1, l2, l3, l4⟩ := look (sgs := sgs) (room := W - hd) (base := []) (by rw [List.nil_append]; exact G) (show W - hd < (flat (ps ++ [q])).length by (exact ol122 hW h1))
      simp only [List.nil_append, List.length_nil, show flat [] = [] from rfl, Nat.zero_add] at l1 l2 l3 l4
      obtain ⟨n', rfl⟩ : ∃ n', n = n' + 1 := ⟨n - 1, by (exact ol119 hn)⟩
      rw [rows2, Nat.zero_add, if_neg (Nat.not_le.mpr l1), l2, l3, l4]
      cases hf : findAll sgs (ps ++ [q]) with
      | some k =>
        rw [chunkS_hit h1 hf]
        obtain ⟨k1, k2⟩ := findAll_some hf
        have hl1 : (ps ++ [q]).length = ps.length + 1 := by simp
        have eP : ps ++ q :: qs = (ps ++ [q]).take k ++ ((ps ++ [q]).drop k ++ qs) := by
          rw [e1, ← List.append_assoc ((ps ++ [q]).take k), List.take_append_drop]
        have htl : ((ps ++ [q]).take k).length = k := by rw [List.length_take]; (exact ol123 k2 hl1)
        have hpk : posP (ps ++ q :: qs) k = (flat ((ps ++ [q]).take k)).length := by
          have := pos_append (ps := (ps ++ [q]).take k) (qs := (ps ++ [q]).drop k ++ qs) (k := k) (by rw [htl]; exact Nat.le_refl _)
          rw [← eP] at this
          rw [this]
          have e := pos_all ((ps ++ [q]).take k)
          rwa [htl] at e
        have hkP : k < (ps ++ q :: qs).length := by simp; (exact ol124 k2 hl1 htl)
        obtain ⟨lines', ps', r1, r2⟩ := claimS (sgs := sgs) (W := W) qs ((ps ++ [q]).drop k) ((ps ++ [q]).take k) ([] ++ [ofL (flat ((ps ++ [q]).take k))]) n' (by rw [← eP]; exact G) (by (exact ol125 hn0))
        refine ⟨lines', ps', 0, r1, ?_⟩
        rw [r2, ← eP]
        simp only [Option.map_some, Option.some_or]
        rw [put_seam G k1 hkP]
        have hrow : ((flat (ps ++ q :: qs)).drop 0).take (posP (ps ++ q :: qs) k - 0) = flat ((ps ++ [q]).take k) := by
          rw [List.drop_zero, Nat.sub_zero, (flat_cut _ _).1, e1, List.take_append_of_le_length (by (exact ol126 k2 hl1 htl))]
        rw [hrow, hpk, List.map_cons, List.nil_append, List.singleton_append]
        congr 3
        rw [List.take_append_drop]
      | none =>
        rw [chunkS_none1 h0 h1 hf]
        simp only [Option.map_none, Option.none_or, if_true]
        have hrow : ((flat (ps ++ q :: qs)).drop 0).take ((flat ps).length - 0) = flat ps := by
          rw [List.drop_zero, Nat.sub_zero, flat_append]; exact List.take_left' rfl
        rw [hrow]
        have mq : q ∈ ps ++ q :: qs := by simp
        have wq := G.all q mq
        by_cases hw : tx q.1 = []
        · have hps : ps = [] := by
            cases ps with
            | nil => rfl
            | cons a r => exact absurd hw (G.tail q (by simp))
          subst hps
          rw [if_pos ((ofL_nil_iff _).mpr hw)]
          have G' : Good ((ofL [32], q.2) :: qs) := by
            refine ⟨fun x hx => ?_, fun x hx => G.tail x (by simpa using hx)⟩
            cases hx with
            | head =>
              refine ⟨fun d hd => ?_, wq.n, wq.ne⟩
              have : d ∈ [32] := hd
              rw [List.mem_singleton] at this; subst this; rfl
            | tail _ hx => exact G.all x (.tail _ hx)
          have hl : (flat [(ofL [32], q.2)]).length = (flat [q]).length + 1 := by
            rw [flat_cons, flat_cons, hw]
            simp [flat, tx, ofL]
          have hp1 : posP ((ofL [32], q.2) :: qs) 1 = (flat [(ofL [32], q.2)]).length := rfl
          have main : ∀ N, qs.length < N → rows2 sgs W n' false (flat ((ofL [32], q.2) :: qs)) 0 (flat [q]).length W = rows2 sgs W N false (flat ((ofL [32], q.2) :: qs)) 0 (flat [(ofL [32], q.2)]).length W →
              ∃ lines' ps' i', qs.foldl (chunk (W : Int) sgs) ([] ++ [ofL (flat [])], [(ofL [32], q.2)], 0) = (lines', ps', i') ∧ lines' ++ [ofL (flat ps')] = (flat [] :: rows2 sgs W n' false (putBlank (flat (q :: qs)) 0) 0 (flat [q]).length W).map ofL := fun N hN e => by
            obtain ⟨lines', ps', r1, r2⟩ := claimS (sgs := sgs) (W := W) qs [(ofL [32], q.2)] [] ([] ++ [ofL (flat [])]) N (by simpa using G') hN
            refine ⟨lines', ps', 0, r1, ?_⟩
            rw [r2, put_zero wq hw, e]
            rfl
          rcases Nat.lt_or_ge (flat [q]).length W with h | h
          · exact main n' (by (exact ol125 hn0)) (rows2_laid (by (exact ol127 hl hp1 h)))
          · obtain ⟨n'', rfl⟩ : ∃ n'', n' = n'' + 1 := ⟨n' - 1, by (exact ol128 hn)⟩
            exact main n'' (by (exact ol129 hn0)) (by rw [idle G' (by simp) (by rw [hp1, hl]) h, hp1])
        · rw [if_neg (fun z => hw ((ofL_nil_iff _).mp z))]
          obtain ⟨lines', ps', r1, r2⟩ := claimS (sgs := sgs) (W := W) qs [q] ps ([] ++ [ofL (flat ps)]) n' (by simpa using G) (by (exact ol125 hn0))
          refine ⟨lines', ps', 0, r1, ?_⟩
          rw [r2]
          simp only [List.nil_append, List.cons_append, List.map_cons]
          obtain ⟨hh, f1, f2⟩ := flat_head (r := qs) wq hw
          rw [put_white ⟨_, rfl, hh, by rw [flat_append, List.drop_left]; exact f1, f2⟩]
end
end Mine
end

section
open PySem PySem.W PySem.Calls PyProof.Rows
set_option maxRecDepth 100000
set_option maxHeartbeats 8000000
namespace Mine
theorem cut_both {x : Str} {i j : Nat} (h : i ≤ j) (hj : j ≤ x.cps.toList.length) : Txt.slice x (some (i : Int)) (some (j : Int)) = ofL ((x.cps.toList.drop i).take (j - i)) := by
  have := eq_of_beq (slice_closes (x := x) (i := (i : Int)) (j := (j : Int)) ⟨by (exact Int.natCast_nonneg _), by (exact ol18 h), by (exact ol18 hj)⟩)
  rw [this]
  unfold ofL
  rw [show ((j : Int) - (i : Int)).toNat = j - i by (exact ol19 h), Int.toNat_natCast]
section
variable {w : World} {A : Around} {E : Value → Shared → Prop} {s : Shared} {Q : Value → Shared → Prop} {x : Str} {t : Tok}
theorem s_mid {value slice : Expr} {p q : Nat} {ui uj : Tok} (hpq : p ≤ q) (hq : q ≤ x.cps.toList.length) (hx : x.length ≤ 1000) (h : ∀ h' t' k, (∀ b o, s.heap.get? b = some o → h'.get? b = some o) → Q (.str (ofL ((x.cps.toList.drop p).take (q - p))) t') { s with heap := h', toks := k })
    (hs : subscripted slice false (.str x t) (.ref s.heap.objs.size) = operate [.ref s.heap.objs.size, .str x t] (getItem (.str x t) (.ref s.heap.objs.size)) := by with_unfolding_all rfl)
    (ht : ∀ r, letTemporaryGo value (.str x t) r = pure () := by intro _; with_unfolding_all rfl) :
    wpAny (model PG w) A (subscriptTail value slice (.str x t) (.ref s.heap.objs.size)) Q E { s with heap := s.heap.push { cls := .type "slice", data := .fields #[.int (p : Nat) ui, .int (q : Nat) uj, .none] } } := by
  refine tail_of_ItemOn (SBH.sliceItem_ss (keptAll s.heap) (fun _ _ e => e) (fun h' t' k hk => ?_) (Nat.le_trans hx (by decide))) hs ht
  rw [cut_both hpq hq]
  exact h h' t' k hk
theorem eq_empty {l b : Addr} {vs : List Value} (hl : s.heap.IsList l vs.toArray) (hb : s.heap.IsList b #[]) (hu : A.units < cLine) (h : Q (.bool vs.isEmpty) s) : wpAny (model PG w) A (compareOp .Eq (.ref l) (.ref b)) Q E s := by
  cases vs with
  | nil => exact PySem.SeqAt.eq_listAt (e := fun _ => true) hl hb rfl hu (fun j h1 => absurd h1 (Nat.not_lt_zero _)) h
  | cons v vs => exact PySem.SeqAt.eq_list_lengthsAt hl hb (by simp) hu h
theorem ne_empty {l b : Addr} {vs : List Value} (hl : s.heap.IsList l vs.toArray) (hb : s.heap.IsList b #[]) (hu : A.units < cLine) (h : Q (.bool (!vs.isEmpty)) s) : wpAny (model PG w) A (compareOp .NotEq (.ref l) (.ref b)) Q E s := by
  cases vs with
  | nil => exact PySem.SeqAt.RcNeAt.lists (e := fun _ => true) hl hb rfl hu (fun j h1 => absurd h1 (Nat.not_lt_zero _)) PG w E Q h
  | cons v vs => exact PySem.SeqAt.RcNeAt.lists_lengths hl hb (by simp) hu PG w E Q h
end
theorem plF_head {sp : Str} {r : List Nat} {col st : Nat} : (plF sp r col st sp.cps.size).head? = placeOf sp.cps.toList r col st := by
  unfold plF placeOf
  rw [List.head?_filterMap, List.take_of_length_le (by simp)]
theorem isEmpty_ints {vs : List Value} {ns : List Int} (h : IntsAre vs ns) : vs.isEmpty = ns.isEmpty := by cases h <;> rfl
theorem ints_first {vs : List Value} {p : Nat} {r : List Int} (h : IntsAre vs ((p : Int) :: r)) : ∃ t vs', vs = .int (p : Nat) t :: vs' := by
  cases h with | cons _ t _ => exact ⟨t, _, rfl⟩
section
variable {w : World} {A : Around} {E : Value → Shared → Prop} {s s' : Shared} {g : Heap} {ws : List Addr} {s₀ : Shared} {L : Addr} {m : Str → Option Value} {news : List (Addr × Obj)} {cn : Str} {cs : Scope} {a : Addr} {ccd : Value} {cl : List (Str × Addr)}
theorem c_storeC {x : Str} {v : Value} {cc : Addr} {o : Obj} {v₀ : Option Value} {g' : Obj → List (Addr × Obj)} {Q : Unit → Shared → Prop} (c : Cx w g ws s₀ L m news s) (hc : cl.lookup x = some cc) (U : ∀ o', Upd cc o o' news (g' o')) (hb : (221 : Nat) ≤ cc) (hd : o.data = .cell v₀)
    (h : ∀ s' o', o'.data = .cell (some v) → Cx w g ws s₀ L m (g' o') s' → (∀ b ob, b ≠ cc → s.heap.get? b = some ob → s'.heap.get? b = some ob) → Q () s')
    (hk : cs.kind = .function := by rfl) (hx : (envX cn cs L a ccd cl).kindOf x = some .cell := by rfl) : wpAny (model PG w) A (storeName (envX cn cs L a ccd cl) x v) Q E s := by
  have hm : (cc, o) ∈ news := by
    obtain ⟨pre, post, rfl, _⟩ := (U o).split
    exact List.mem_append.mpr (.inr (.head _))
  refine wpAny_storeName_cell hk hx hc ⟨o, c.get hm, hd⟩ fun h' hv hs => ?_
  obtain ⟨o', ho', hd'⟩ := hv
  exact h { s with heap := h' } o' hd' (c.upd (U o') hb hs ho' rfl rfl) fun b ob hne e => hs.extBut b ob hne e
theorem cell_noCode {h : Heap} {b : Addr} {o : Obj} {v : Option Value} (e' : h.get? b = some o) (hd : o.data = .cell v) : ∀ o' vs, h.get? b = some o' → ¬ CodeD o' vs := fun o' vs e c => by
  rw [e'] at e; cases e; have := c.1; rw [hd] at this; cases this
end
theorem CodesIn.k2 {qf : Nat → Str} {ps : Array Value} {h h' : Heap} {lo : Nat} (C : CodesIn qf ps h) (K : Keep2 lo h h') : CodesIn qf ps h' := C.keep fun b o vs hb hd e => K b o hb (.inr ⟨vs, hd⟩) e
theorem CodesIn.ka {qf : Nat → Str} {ps : Array Value} {h h' : Heap} (C : CodesIn qf ps h) (k : ∀ b o, h.get? b = some o → h'.get? b = some o) : CodesIn qf ps h' := C.keep fun b o _ _ _ e => k b o e
theorem CodesIn.kb {qf : Nat → Str} {ps : Array Value} {h h' : Heap} {b0 : Addr} (C : CodesIn qf ps h) (hnc : ∀ o vs, h.get? b0 = some o → ¬ CodeD o vs) (k : ∀ b o, b ≠ b0 → h.get? b = some o → h'.get? b = some o) : CodesIn qf ps h' := C.keep fun b o vs _ hd e => k b o (fun q => hnc o vs (q ▸ e) hd) e
section
variable {L rl : Addr} {o4 o3 o2 o1 ol o' : Obj} {ps ps2 : Array Value}
theorem offs {i j : Nat} (h : i ≠ j) : (L : Nat) + i ≠ L + j := fun q => h (Nat.add_left_cancel q)
theorem upd4 (hL : (221 : Nat) ≤ L) (hr : (L : Nat) + 5 ≤ rl) : Upd (L + 4) o4 o' (Led L o4 o3 o2 o1 rl ol ps ps2) (Led L o' o3 o2 o1 rl ol ps ps2) := Upd.head fun p hp => by
  have h4 : (221 : Nat) ≤ L + 4 := Nat.le_trans hL (Nat.le_add_right _ _)
  simp only [List.mem_cons, List.not_mem_nil, or_false] at hp
  rcases hp with rfl | rfl | rfl | rfl | rfl | rfl
  · exact offs (by decide)
  · exact offs (by decide)
  · exact offs (by decide)
  · exact Nat.ne_of_gt hr
  · exact Ne.symm (hi_ne h4 (show (198 : Nat) < 221 by decide))
  · exact Ne.symm (hi_ne h4 (show (205 : Nat) < 221 by decide))
theorem upd3 (hL : (221 : Nat) ≤ L) (hr : (L : Nat) + 5 ≤ rl) : Upd (L + 3) o3 o' (Led L o4 o3 o2 o1 rl ol ps ps2) (Led L o4 o' o2 o1 rl ol ps ps2) := Upd.tail (offs (by decide)) (Upd.head fun p hp => by
  have h4 : (221 : Nat) ≤ L + 3 := Nat.le_trans hL (Nat.le_add_right _ _)
  simp only [List.mem_cons, List.not_mem_nil, or_false] at hp
  rcases hp with rfl | rfl | rfl | rfl | rfl
  · exact offs (by decide)
  · exact offs (by decide)
  · exact Nat.ne_of_gt (Nat.le_trans (Nat.le_succ _) hr)
  · exact Ne.symm (hi_ne h4 (show (198 : Nat) < 221 by decide))
  · exact Ne.symm (hi_ne h4 (show (205 : Nat) < 221 by decide)))
theorem upd2 (hL : (221 : Nat) ≤ L) (hr : (L : Nat) + 5 ≤ rl) : Upd (L + 2) o2 o' (Led L o4 o3 o2 o1 rl ol ps ps2) (Led L o4 o3 o' o1 rl ol ps ps2) := Upd.tail (offs (by decide)) (Upd.tail (offs (by decide)) (Upd.head fun p hp => by
  have h4 : (221 : Nat) ≤ L + 2 := Nat.le_trans hL (Nat.le_add_right _ _)
  simp only [List.mem_cons, List.not_mem_nil, or_false] at hp
  rcases hp with rfl | rfl | rfl | rfl
  · exact offs (by decide)
  · exact Nat.ne_of_gt (Nat.le_trans (Nat.le_add_right (L + 3) 2) hr)
  · exact Ne.symm (hi_ne h4 (show (198 : Nat) < 221 by decide))
  · exact Ne.symm (hi_ne h4 (show (205 : Nat) < 221 by decide))))
theorem updr (hL : (221 : Nat) ≤ L) (hr : (L : Nat) + 5 ≤ rl) : Upd rl ol o' (Led L o4 o3 o2 o1 rl ol ps ps2) (Led L o4 o3 o2 o1 rl o' ps ps2) := Upd.tail (Nat.ne_of_lt hr) (Upd.tail (Nat.ne_of_lt (Nat.le_trans (Nat.le_succ _) hr)) (Upd.tail (Nat.ne_of_lt (Nat.le_trans (Nat.le_add_right (L + 3) 2) hr)) (Upd.tail (Nat.ne_of_lt (Nat.le_trans (Nat.le_add_right (L + 2) 3) hr)) (Upd.head fun p hp => by
  have h4 : (221 : Nat) ≤ rl := Nat.le_trans hL (Nat.le_trans (Nat.le_add_right _ _) hr)
  simp only [List.mem_cons, List.not_mem_nil, or_false] at hp
  rcases hp with rfl | rfl
  · exact Ne.symm (hi_ne h4 (show (198 : Nat) < 221 by decide))
  · exact Ne.symm (hi_ne h4 (show (205 : Nat) < 221 by decide))))))
end
end Mine
end

section
open PySem PySem.W PySem.Calls PyProof.Rows
set_option maxRecDepth 100000
set_option maxHeartbeats 8000000
namespace Mine
theorem ownTT {s : Shared} {ps ps2 : Array Value} (h : s.heap.get? 198 = some (tabObj ps)) (h2 : s.heap.get? 205 = some (tabObj ps2)) : ∀ p ∈ [((198 : Addr), tabObj ps), ((205 : Addr), tabObj ps2)], Hi p.1 ∧ s.heap.get? p.1 = some p.2 := fun p hp => by
  cases hp with | head => exact ⟨.inr (.inl rfl), h⟩ | tail _ hp => cases hp with | head => exact ⟨.inr (.inr rfl), h2⟩ | tail _ h => cases h
structure RwS (w : World) (g : Heap) (s : Shared) (L rl : Addr) (sp : Str) (W hd : Nat) (z : Int) (tW th ts tz : Tok) (tot : List (List Nat)) (k : Nat) (s' : Shared) (r : List Nat) (st ld rm : Nat) (hb : Bool) (rowsL : List (List Nat)) (N : Nat) (m : Str → Option Value) (o4 o3 o2 o1 : Obj) (ll : List (Str × Tok)) (n : Nat) (ps ps2 : Array Value) : Prop where
  hk : k = (r.length - ld) + hb.toNat
  tot : tot = rowsL ++ rows2 sp.cps.toList W N hb r st ld rm
  fuel : k < N
  hbe : hb = (decide (0 < hd) && rowsL.isEmpty)
  rlen : r.length + hb.toNat ≤ 901
  stl : st ≤ r.length
  st0 : hb = true → st = 0
  ldl : ld ≤ r.length
  rml : rm ≤ 500
  cnt : rowsL.length + k ≤ 902
  n_width : m "width" = some (.int (W : Nat) tW)
  n_head : m "head" = some (.int (hd : Nat) th)
  n_signs : m "signs" = some (.str sp ts)
  n_laid : ∃ t, m "laid" = some (.int (ld : Nat) t)
  n_room : ∃ t, m "room" = some (.int (rm : Nat) t)
  n_rows : m "rows" = some (.ref rl)
  d4 : ∃ v, o4.data = .cell v
  d3 : ∃ t, o3.data = .cell (some (.int (st : Nat) t))
  d2 : ∃ t, o2.data = .cell (some (.str (ofL r) t))
  d1 : o1.data = .cell (some (.int z tz))
  c : Cx w g [198, 205] s L m (Led L o4 o3 o2 o1 rl (listObj (strValues ll).toArray n) ps ps2) s'
  hll : ll.map (·.1) = rowsL.map ofL
  CH : CodesIn qH ps s'.heap
  CF : CodesIn qF ps2 s'.heap
noncomputable def RwI (w : World) (g : Heap) (s : Shared) (L rl : Addr) (sp : Str) (W hd : Nat) (z : Int) (tW th ts tz : Tok) (tot : List (List Nat)) (k : Nat) (s' : Shared) : Prop :=
  ∃ r st ld rm hb rowsL N m o4 o3 o2 o1 ll n ps ps2, RwS w g s L rl sp W hd z tW th ts tz tot k s' r st ld rm hb rowsL N m o4 o3 o2 o1 ll n ps ps2
noncomputable def clRows (L : Addr) : List (Str × Addr) := [("col", L + 4), ("start", L + 3), ("rest", L + 2), ("size", L + 1)]
section
variable {w : World} {A : Around} {E : Value → Shared → Prop} {s : Shared} {Q : Value → Shared → Prop}
theorem rows2_ok {x sp : Str} {W hd : Nat} {z : Int} {tx tW th ts tz : Tok} {ps ps2 : Array Value} (O : Ok w s) (r : Rm A 14) (hz : z = 0 ∨ z = 1) (hT : s.heap.get? 198 = some (tabObj ps)) (C : CodesIn qH ps s.heap)
    (hT2 : s.heap.get? 205 = some (tabObj ps2)) (C2 : CodesIn qF ps2 s.heap) (hx : x.length ≤ 900) (hW : W ≤ 500) (hhd : hd ≤ W) (hsp : sp.cps.size ≤ 1000)
    (h : ∀ s' l ll n, Ok w s' → St [198, 205] s s' → s'.heap.get? l = some (listObj (strValues ll).toArray n) → s.heap.objs.size ≤ l → ll.map (·.1) = (rows2 sp.cps.toList W (x.length + 2) (decide (0 < hd)) x.cps.toList 0 0 (W - hd)).map ofL → (∃ ps, s'.heap.get? 198 = some (tabObj ps)) → (∃ ps, s'.heap.get? 205 = some (tabObj ps)) → Q (.ref l) s') :
    wpAny (model PG w) A (call (.ref 215) [.str x tx, .int (W : Nat) tW, .int (hd : Nat) th, .str sp ts, .int z tz]) Q E s := by
  refine c_enterCells (binds := [("text", .str x tx), ("width", .int (W : Nat) tW), ("head", .int (hd : Nat) th), ("signs", .str sp ts), ("size", .int z tz)]) clRows [(198, tabObj ps), (205, tabObj ps2)] O r.room (ownTT hT hT2) (fun g L s₁ cells c Y k₁ => ?_) (hclf := fun _ => rfl) (hkind := fun n x hx => ?_) (hab := fun n q hq => ?_)
  · obtain ⟨o4, o3, o2, o1, rfl, d4, d3, d2, d1⟩ := Y.four
    have big : (221 : Nat) ≤ s.heap.objs.size := (base_of (own := []) O.gd no_own).2
    have hLs : s.heap.objs.size = L := c.hL
    have hL : (221 : Nat) ≤ L := c.big
    have CH₁ : CodesIn qH ps s₁.heap := C.keep fun b o vs _ _ e => k₁ b o e
    have CF₁ : CodesIn qF ps2 s₁.heap := C2.keep fun b o vs _ _ e => k₁ b o e
    have d1' : o1.data = .cell (some (.int z tz)) := d1
    have d2' : o2.data = .cell none := d2
    have d3' : o3.data = .cell none := d3
    have d4' : o4.data = .cell none := d4
    clear d1 d2 d3 d4
    refine wpAny_execs_cons ?_
    refine wpAny_Assign_Name ?_
    refine c_name c rfl ?_
    refine c_storeC (x := "rest") (o := o2) (g' := fun o' => [(L + 4, o4), (L + 3, o3), (L + 2, o'), (L + 1, o1), (198, tabObj ps), (205, tabObj ps2)]) c rfl (fun o' => Upd.tail (offs (by decide)) (Upd.tail (offs (by decide)) (Upd.head fun p hp => ?_))) (Nat.le_trans hL (Nat.le_add_right _ _)) d2' fun s₂ o2' d2'' c₂ k₂ => ?_
    · have h4 : (221 : Nat) ≤ L + 2 := Nat.le_trans hL (Nat.le_add_right _ _)
      have hp' : p ∈ [(L + 1, o1), ((198 : Addr), tabObj ps), ((205 : Addr), tabObj ps2)] := hp
      simp only [List.mem_cons, List.not_mem_nil, or_false] at hp'
      rcases hp' with rfl | rfl | rfl
      · exact offs (by decide)
      · exact Ne.symm (hi_ne h4 (show (198 : Nat) < 221 by decide))
      · exact Ne.symm (hi_ne h4 (show (205 : Nat) < 221 by decide))
    have K₂ : ∀ b o vs, (221 : Nat) ≤ b → CodeD o vs → s₁.heap.get? b = some o → s₂.heap.get? b = some o := fun b o vs hb hd e => k₂ b o (fun q => cell_noCode (c.get (.tail _ (.tail _ (.head _)))) d2' o vs (q ▸ e) hd) e
    refine wpAny_execs_cons ?_
    refine wpAny_Assign_Name ?_
    refine List_ ?_
    refine spliced_none ?_
    refine c_listK (vs := []) c₂ (fun s₃ rl c₃ hrl k₃ => ?_) (Nat.zero_le _)
    have hrl5 : (L : Nat) + 5 ≤ rl := hrl ▸ Heap.lt_size (c₂.get (.head _))
    have hrl2 : (221 : Nat) ≤ rl := Nat.le_trans hL (Nat.le_trans (Nat.le_add_right _ _) hrl5)
    replace c₃ : Cx w g [198, 205] s L _ (Led L o4 o3 o2' o1 rl (listObj (strValues []).toArray 0) ps ps2) s₃ := c₃.drop fun p hp => by
      unfold Led at hp
      simp only [List.mem_cons, List.not_mem_nil, or_false] at hp ⊢
      rcases hp with rfl | rfl | rfl | rfl | rfl | rfl | rfl <;> simp [strValues]
    refine c_storeK c₃ fun s₄ c₄ k₄ => ?_
    refine wpAny_execs_cons ?_
    refine wpAny_Assign_Name ?_
    refine c_intK c₄ fun s₅ t₅ c₅ e₅ => ?_
    refine c_storeC (x := "start") (o := o3) (g' := fun o' => Led L o4 o' o2' o1 rl (listObj (strValues []).toArray 0) ps ps2) c₅ rfl (fun o' => upd3 hL hrl5) (Nat.le_trans hL (Nat.le_add_right _ _)) d3' fun s₆ o3' d3'' c₆ k₆ => ?_
    refine wpAny_execs_cons ?_
    refine wpAny_Assign_Name ?_
    refine c_intK c₆ fun s₇ t₇ c₇ e₇ => ?_
    refine c_storeK c₇ fun s₈ c₈ k₈ => ?_
    refine wpAny_execs_cons ?_
    refine wpAny_Assign_Name ?_
    refine wpAny_BinOp (c_name c₈ rfl (c_name c₈ rfl (sub_int ?_)))
    have c₉ := c₈.ext (s' := { s₈ with toks := s₈.toks + 1 }) (fun _ _ e => e) rfl rfl
    rw [show ((W : Nat) : Int) - ((hd : Nat) : Int) = ((W - hd : Nat) : Int) by (exact ol20 hhd)]
    refine c_storeK c₉ fun s₁₀ c₁₀ k₁₀ => ?_
    have KC : ∀ b o vs, (221 : Nat) ≤ b → CodeD o vs → s₁.heap.get? b = some o → s₁₀.heap.get? b = some o := fun b o vs hb hd e => by
      have e4 := k₄ b o (c₃.neLf (k₃ b o (K₂ b o vs hb hd e)) hd) (k₃ b o (K₂ b o vs hb hd e))
      have e5 : s₅.heap.get? b = some o := by rw [e₅]; exact e4
      have e6 := k₆ b o (fun q => cell_noCode (c₅.get led3) d3' o vs (q ▸ e5) hd) e5
      have e7 : s₇.heap.get? b = some o := by rw [e₇]; exact e6
      have e8 := k₈ b o (c₇.neLf e7 hd) e7
      exact k₁₀ b o (c₉.neLf e8 hd) e8
    have CH₁₀ : CodesIn qH ps s₁₀.heap := CH₁.keep KC
    have CF₁₀ : CodesIn qF ps2 s₁₀.heap := CF₁.keep KC
    obtain ⟨m₁₀, hm₁₀, c₁₁⟩ := c₁₀.named
    have hxl : x.cps.toList.length = x.length := by rw [Array.length_toList]; rfl
    have hI : RwI w g s L rl sp W hd z tW th ts tz (rows2 sp.cps.toList W (x.length + 2) (decide (0 < hd)) x.cps.toList 0 0 (W - hd)) (x.length + (decide (0 < hd)).toNat) s₁₀ :=
      ⟨x.cps.toList, 0, 0, W - hd, decide (0 < hd), [], x.length + 2, m₁₀, o4, o3', o2', o1, [], 0, ps, ps2, {
        hk := by rw [hxl, Nat.sub_zero]
        tot := rfl
        fuel := by have : (decide (0 < hd)).toNat ≤ 1 := Bool.toNat_le _; (exact ol21 this)
        hbe := by simp
        rlen := by have : (decide (0 < hd)).toNat ≤ 1 := Bool.toNat_le _; (exact ol22 hx hxl this)
        stl := Nat.zero_le _
        st0 := fun _ => rfl
        ldl := Nat.zero_le _
        rml := by (exact ol23 hW hhd)
        cnt := by have : (decide (0 < hd)).toNat ≤ 1 := Bool.toNat_le _; simp; (exact ol24 hx hxl this)
        n_width := by rw [hm₁₀]; rfl
        n_head := by rw [hm₁₀]; rfl
        n_signs := by rw [hm₁₀]; rfl
        n_laid := ⟨t₇, by rw [hm₁₀]; rfl⟩
        n_room := ⟨s₈.toks, by rw [hm₁₀]; exact if_pos rfl⟩
        n_rows := by rw [hm₁₀]; rfl
        d4 := ⟨_, d4'⟩
        d3 := ⟨_, d3''⟩
        d2 := ⟨_, by rw [show ofL x.cps.toList = x from ofL_toList x]; exact d2''⟩
        d1 := d1'
        c := c₁₁
        hll := rfl
        CH := CH₁₀
        CF := CF₁₀ }⟩
    clear hm₁₀ c₁₀ c₁₁
    generalize rows2 sp.cps.toList W (x.length + 2) (decide (0 < hd)) x.cps.toList 0 0 (W - hd) = tot at h hI
    refine wpAny_execs_cons ?_
    refine wpAny_mono (Q := fun fl s' => match fl with
      | .ret v => Q v s'
      | _ => False) ?_ (fun fl s' hq => ?_) fun _ _ e => e
    · refine wpAny_While ?_
      refine codeAny_whileLoop (I := RwI w g s L rl sp W hd z tW th ts tz tot) (fun k s' hI => ?_) _ hI
      refine isTrue_plain (wpAny_Constant_bool (wpAny_truthy_bool ?_))
      rw [if_pos rfl]
      obtain ⟨R, st, ld, rm, hb, rowsL, N, m, o4, o3, o2, o1, ll, n, ps, ps2, S⟩ := hI
      obtain ⟨hk, htot, hfuel, hbe, hrlen, hstl, hst0, hldl, hrml, hcnt, n_width, n_head, n_signs, ⟨tl, n_laid⟩, ⟨trm, n_room⟩, n_rows, ⟨v4, d4⟩, ⟨tst, d3⟩, ⟨tr, d2⟩, d1, c, hll, CH, CF⟩ := S
      refine wpAny_mid fun P' hP' => ?_
      have hRt : (ofL R).cps.toList = R := by simp [ofL]
      have hRl : (ofL R).length = R.length := ofL_len R
      have hlr : ll.length = rowsL.length := by simpa using congrArg List.length hll
      refine wpAny_execs_cons ?_
      refine wpAny_Assign_Name ?_
      refine Call_ ?_
      refine c_built c (v := .builtin "max") ?_ ?_ ?_ ?_
      · kernel_rfl
      · kernel_rfl
      · decide
      refine PyProof.Rows.callWith_builtin1 ?_
      refine spliced_more (c_name c n_laid ?_)
      refine spliced_more ?_
      refine wpAny_BinOp (c_cell c led3 d3 (c_name c n_room (PyProof.Rows.add_int ?_)))
      have c₂ := c.ext (s' := { s' with toks := s'.toks + 1 }) (fun _ _ e => e) rfl rfl
      refine spliced_none ?_
      refine max_two_ints (by exact r.hd) fun h₃ tk₃ k₃ => ?_
      obtain ⟨col, hcol⟩ : ∃ col, col = max ld (st + rm) := ⟨_, rfl⟩
      obtain ⟨tc, htc⟩ : ∃ τ, (if (st : Int) + (rm : Int) > (ld : Int) then Value.int ((st : Int) + (rm : Int)) s'.toks else Value.int (ld : Nat) tl) = Value.int ((col : Nat) : Int) τ := by
        by_cases hc : (st : Int) + (rm : Int) > (ld : Int)
        · rw [if_pos hc]; exact ⟨_, by rw [show (st : Int) + (rm : Int) = ((col : Nat) : Int) by (exact ol25 hcol hc)]⟩
        · rw [if_neg hc]; exact ⟨_, by rw [show (ld : Nat) = col by (exact ol26 hcol hc)]⟩
      rw [htc]
      have c₃ := c₂.ext (s' := { s' with heap := h₃, toks := tk₃ }) k₃ rfl rfl
      refine c_storeC (x := "col") (o := o4) (g' := fun o' => Led L o' o3 o2 o1 rl (listObj (strValues ll).toArray n) ps ps2) c₃ rfl (fun o' => upd4 hL hrl5) (Nat.le_trans hL (Nat.le_add_right _ _)) d4 fun s₄ o4' d4' c₄ k₄ => ?_
      have K₄ : ∀ b o vs, (221 : Nat) ≤ b → CodeD o vs → s'.heap.get? b = some o → s₄.heap.get? b = some o := fun b o vs hb hd e => k₄ b o (fun q => cell_noCode (c₃.get led4) d4 o vs (q ▸ k₃ b o e) hd) (k₃ b o e)
      have CH₄ := CH.keep K₄
      have CF₄ := CF.keep K₄
      clear k₃ c₃ c₂ c
      refine wpAny_execs_cons ?_
      refine wpAny_If (wpAny_isTrue_Compare1 ?_)
      refine c_cell c₄ led4 d4' ?_
      refine Call_ ?_
      refine c_built c₄ (v := .builtin "len") ?_ ?_ ?_ ?_
      · kernel_rfl
      · kernel_rfl
      · decide
      refine PyProof.Rows.callWith_builtin1 (spliced_more (c_cell c₄ led2 d2 (spliced_none ?_)))
      refine P.len_str (by rw [hRl]; have : 1000000 ≤ sizeLine := by decide
                           lia) ?_
      have c₅ := c₄.ext (s' := { s₄ with toks := s₄.toks + 1 + 1 }) (fun _ _ e => e) rfl rfl
      refine ge_int (wpAny_truthy_bool ?_)
      rw [hRl]
      by_cases hlen : R.length ≤ col
      · rw [decide_eq_true (show ((col : Nat) : Int) ≥ ((R.length : Nat) : Int) by (exact ol28 hRl hcol hlen)), if_pos rfl]
        refine wpAny_execs_cons ?_
        refine wpAny_Return_some ?_
        refine wpAny_BinOp (c_name c₅ n_rows (List_ (spliced_more ?_)))
        refine Subscript_ (c_cell c₅ led2 d2 ?_)
        refine wpAny_Slice (wpAny_evalPart_some (c_cell c₅ led3 d3 (wpAny_evalPart_none (wpAny_evalPart_none ?_))))
        refine s_from (by rw [hRt]; exact hstl) (by (exact ol29 hrlen hRl)) fun h₆ t₆ tk₆ k₆ => ?_
        rw [hRt]
        have c₆ := c₅.ext (s' := { s₄ with heap := h₆, toks := tk₆ }) k₆ rfl rfl
        refine spliced_none (c_list c₆ fun s₇ u c₇ hu => ?_)
        refine P.add_list (c₇.get (.tail _ ledr)) (c₇.get (.head _)) ?_ (Nat.le_trans (show _ ≤ 1000 by simp [strValues]; (exact ol30 hk hcnt hlr)) (by decide))
        have hv : ((strValues ll).toArray ++ [Value.str (ofL (R.drop st)) t₆].toArray) = (strValues (ll ++ [(ofL (R.drop st), t₆)])).toArray := by
          apply Array.ext'; simp [strValues]
        rw [hv]
        have c₈ := Cx.new (a := s₇.heap.objs.size) (o := listObj (strValues (ll ++ [(ofL (R.drop st), t₆)])).toArray 0) (c₇.ext (s' := { s₇ with heap := s₇.heap.push (listObj (strValues (ll ++ [(ofL (R.drop st), t₆)])).toArray 0) }) (fun _ _ e => Heap.get?_push_of_some _ e) rfl rfl) (Heap.get?_push_size _ rfl) c₇.lt
        refine hP' _ _ ?_
        obtain ⟨N', rfl⟩ : ∃ N', N = N' + 1 := ⟨N - 1, by (exact ol31 hk hfuel)⟩
        refine h _ _ (ll ++ [(ofL (R.drop st), t₆)]) 0 c₈.ok c₈.st (c₈.get (.head _)) (Nat.le_of_lt c₇.lt) ?_ ⟨_, c₈.get (.tail _ (.tail _ led198))⟩ ⟨_, c₈.get (.tail _ (.tail _ led205))⟩
        rw [htot, rows2, if_pos (by rw [← hcol]; exact hlen)]
        simp [hll]
      · rw [decide_eq_false (show ¬ ((col : Nat) : Int) ≥ ((R.length : Nat) : Int) by (exact ol32 hRl hcol hlen)), if_neg (by decide)]
        refine wpAny_execs_nil ?_
        have un : ∀ {env : Env}, (A.deeper env).units < cLine := fun {env} => Nat.lt_of_le_of_lt (Nat.le_add_right _ _) (r.deep (env := env)).un
        have nk205 : ∀ b ∈ [(205 : Addr)], ¬ (221 : Nat) ≤ b := fun b hb => by rw [List.mem_singleton] at hb; subst hb; decide
        have nk198 : ∀ b ∈ [(198 : Addr)], ¬ (221 : Nat) ≤ b := fun b hb => by rw [List.mem_singleton] at hb; subst hb; decide
        have nn : ∀ b ∈ ([] : List Addr), ¬ (221 : Nat) ≤ b := fun _ h => nomatch h
        have hro : ∀ {o : Option Nat} {r : Value} {lo : Nat} {h : Heap}, HitOr w lo h z o r → (r = .none ∨ ∃ a, r = .ref a) ∧ (r == .none) = o.isNone := fun {o} {r} {lo} {h} H => by
          cases o with
          | none => have e : r = .none := H; subst e; exact ⟨.inl rfl, rfl⟩
          | some p => obtain ⟨u, rfl, _⟩ := H; exact ⟨.inr ⟨u, rfl⟩, rfl⟩
        refine wpAny_execs_cons ?_
        refine hits_ok (cl' := [("size", L + 1), ("rest", L + 2), ("col", L + 4)]) c₅ r.deep.le hz CH₄ CF₄ hrl2 n_signs d4' d2 d1 (by (exact ol33 hrlen hRl)) hsp fun s₆ D kD ys ps₆ ps2₆ c₆' CH₆ CF₆ hD hDl H₆ => ?_
        obtain ⟨m₆, hm₆, c₆⟩ := c₆'.named
        have a_hits : m₆ "hits" = some (.ref D) := by rw [hm₆]; exact if_pos rfl
        have a_width : m₆ "width" = some (.int (W : Nat) tW) := by rw [hm₆]; exact (if_neg (by decide)).trans n_width
        have a_head : m₆ "head" = some (.int (hd : Nat) th) := by rw [hm₆]; exact (if_neg (by decide)).trans n_head
        have a_signs : m₆ "signs" = some (.str sp ts) := by rw [hm₆]; exact (if_neg (by decide)).trans n_signs
        have a_room : m₆ "room" = some (.int (rm : Nat) trm) := by rw [hm₆]; exact (if_neg (by decide)).trans n_room
        have a_rows : m₆ "rows" = some (.ref rl) := by rw [hm₆]; exact (if_neg (by decide)).trans n_rows
        clear hm₆ c₆'
        refine wpAny_execs_cons ?_
        refine places_ok (cl' := [("start", L + 3)]) c₆ r.deep.le CH₆ CF₆ hD hDl H₆ a_hits d3 hsp fun s₇ D₇ k₇ vs c₇' CH₇ CF₇ hDl₇ hD₇ IA => ?_
        obtain ⟨m₇, hm₇, c₇⟩ := c₇'.named
        have b_places : m₇ "places" = some (.ref D₇) := by rw [hm₇]; exact if_pos rfl
        have b_width : m₇ "width" = some (.int (W : Nat) tW) := by rw [hm₇]; exact (if_neg (by decide)).trans a_width
        have b_head : m₇ "head" = some (.int (hd : Nat) th) := by rw [hm₇]; exact (if_neg (by decide)).trans a_head
        have b_signs : m₇ "signs" = some (.str sp ts) := by rw [hm₇]; exact (if_neg (by decide)).trans a_signs
        have b_room : m₇ "room" = some (.int (rm : Nat) trm) := by rw [hm₇]; exact (if_neg (by decide)).trans a_room
        have b_rows : m₇ "rows" = some (.ref rl) := by rw [hm₇]; exact (if_neg (by decide)).trans a_rows
        clear hm₇ c₇' c₆ H₆ CH₆ CF₆ a_hits a_width a_head a_signs a_room a_rows
        have D221 : (221 : Nat) ≤ D₇ := Nat.le_trans hL (Nat.le_trans (Nat.le_add_right _ _) hD₇)
        have D205 : D₇ ≠ 205 := hi_ne D221 (by decide)
        have D198 : D₇ ≠ 198 := hi_ne D221 (by decide)
        refine wpAny_execs_cons ?_
        refine wpAny_Assign_Name ?_
        refine MethodCall_ ?_
        refine Call_ ?_
        refine c_glob c₇ (v := .ref 210) ?_ ?_
        · kernel_rfl
        refine callWith_K (K := KK w) c₇.X (by kernel_rfl) ?_
        refine spliced_more (c_strK c₇ fun s₈ t₈ c₈ e₈ => spliced_more (c_cell c₈ (.tail _ led1) d1 (spliced_none ?_)))
        refine ⟨c₈.X, ?_⟩
        refine finder_ok (sg := (Str.ofString "")) c₈.ok r.deep.le (c₈.get (.tail _ led205)) (by rw [e₈]; exact CF₇) fun s₉ fd ps2₉ O₉ S₉ T₉ CF₉ F₉ => ?_
        have c₉ := c₈.call1 (Upd.tail D205 (upd205 hL hrl2)) S₉ O₉ T₉
        have CH₉ : CodesIn qH ps₆ s₉.heap := CodesIn.k2 (by rw [e₈]; exact CH₇) (S₉.keep2 (lo := 0) nk205)
        refine search_call (sg := (Str.ofString "")) (z := z) F₉ ?_
        have c₁₀ := c₉.ext (s' := { s₉ with toks := s₉.toks + 1 }) (fun _ _ e => e) rfl rfl
        refine spliced_more (c_cell c₁₀ (.tail _ led2) d2 (spliced_more ?_))
        refine wpAny_BinOp (c_cell c₁₀ (.tail _ led4) d4' (c_intK c₁₀ fun s₁₁ t₁₁ c₁₁ e₁₁ => PyProof.Rows.add_int ?_))
        have c₁₂ := c₁₁.ext (s' := { s₁₁ with toks := s₁₁.toks + 1 }) (fun _ _ e => e) rfl rfl
        rw [show ((col : Nat) : Int) + 1 = ((col + 1 : Nat) : Int) by (exact ol34)]
        refine spliced_none ?_
        refine ⟨ofL R, tr, col + 1, ps₆, e₁₁, c₁₂.ok, r.deep.le, c₁₂.get (.tail _ led198), by show CodesIn _ _ s₁₁.heap; rw [e₁₁]; exact CH₉, by (exact ol29 hrlen hRl), by (exact ol35 hrlen hRl hcol hlen), .inr ⟨_, rfl⟩, fun s₁₃ rv ps₁₃ O₁₃ S₁₃ T₁₃ CH₁₃ H₁₃ => ?_⟩
        have c₁₃ := c₁₂.call1 (Upd.tail D198 (upd198 hL hrl2)) S₁₃ O₁₃ T₁₃
        have CF₁₃ : CodesIn qF ps2₉ s₁₃.heap := CodesIn.k2 (by show CodesIn _ _ s₁₁.heap; rw [e₁₁]; exact CF₉) (S₁₃.keep2 (lo := 0) nk198)
        have hlo13 : (L : Nat) + 5 ≤ s₁₁.heap.objs.size := Heap.lt_size (c₁₁.get (.tail _ led4))
        have H₁₃' := H₁₃.mono (lo' := L + 5) hlo13 (Nat.le_trans hL (Nat.le_add_right _ _))
        rw [hRt] at H₁₃'
        refine c_storeK c₁₃ fun s₁₄ c₁₄' k₁₄ => ?_
        obtain ⟨m₁₄, hm₁₄, c₁₄⟩ := c₁₄'.named
        have d_foll : m₁₄ "following" = some rv := by rw [hm₁₄]; exact if_pos rfl
        have d_places : m₁₄ "places" = some (.ref D₇) := by rw [hm₁₄]; exact (if_neg (by decide)).trans b_places
        have d_width : m₁₄ "width" = some (.int (W : Nat) tW) := by rw [hm₁₄]; exact (if_neg (by decide)).trans b_width
        have d_head : m₁₄ "head" = some (.int (hd : Nat) th) := by rw [hm₁₄]; exact (if_neg (by decide)).trans b_head
        have d_signs : m₁₄ "signs" = some (.str sp ts) := by rw [hm₁₄]; exact (if_neg (by decide)).trans b_signs
        have d_room : m₁₄ "room" = some (.int (rm : Nat) trm) := by rw [hm₁₄]; exact (if_neg (by decide)).trans b_room
        have d_rows : m₁₄ "rows" = some (.ref rl) := by rw [hm₁₄]; exact (if_neg (by decide)).trans b_rows
        clear hm₁₄ c₁₄' b_places b_width b_head b_signs b_room b_rows
        have ncL : ∀ o vs, s₁₃.heap.get? L = some o → ¬ CodeD o vs := ns_noCode c₁₃.F.ns
        have hLlo : (L : Nat) < L + 5 := Nat.lt_add_of_pos_right (by decide)
        have H₁₄ := H₁₃'.keep (keep2_but (h' := s₁₄.heap) hLlo ncL k₁₄)
        have CH₁₄ : CodesIn qH ps₁₃ s₁₄.heap := CH₁₃.kb ncL k₁₄
        have CF₁₄ : CodesIn qF ps2₉ s₁₄.heap := CF₁₃.kb ncL k₁₄
        clear H₁₃ H₁₃' CH₁₃ CF₁₃ k₁₄ ncL
        refine wpAny_execs_cons ?_
        refine wpAny_Assign_Name ?_
        refine wpAny_mono (Q := fun v s' => ∃ tp, v = Value.int ((nextSeam R col : Nat) : Int) tp ∧ Cx w g [198, 205] s L m₁₄ ((D₇, listObj vs.toArray k₇) :: Led L o4' o3 o2 o1 rl (listObj (strValues ll).toArray n) ps₁₃ ps2₉) s' ∧ CodesIn qH ps₁₃ s'.heap ∧ CodesIn qF ps2₉ s'.heap) (IfExp_ (wpAny_isTrue_Compare1 ?_)) ?_ fun _ _ e => e
        · refine c_name c₁₄ d_foll (wpAny_Constant_none (is_none (hro H₁₄).1 (wpAny_truthy_bool ?_)))
          rw [(hro H₁₄).2]
          unfold nextSeam
          rw [show (Str.ofString "").cps.toList = ([] : List Nat) from rfl]
          cases hsf : seamFrom [] R (col + 1) with
          | none =>
            rw [if_pos (by rfl)]
            refine Call_ ?_
            refine c_built c₁₄ (v := .builtin "len") ?_ ?_ ?_ ?_
            · kernel_rfl
            · kernel_rfl
            · decide
            refine PyProof.Rows.callWith_builtin1 (spliced_more (c_cell c₁₄ (.tail _ led2) d2 (spliced_none ?_)))
            refine P.len_str (by rw [hRl]; have : 1000000 ≤ sizeLine := by decide
                                 lia) ?_
            have c₁₅ := c₁₄.ext (s' := { s₁₄ with toks := s₁₄.toks + 1 + 1 }) (fun _ _ e => e) rfl rfl
            exact ⟨_, by rw [hRl]; rfl, c₁₅, CH₁₄, CF₁₄⟩
          | some p =>
            have hsf' : seamFrom (Str.ofString "").cps.toList R (col + 1) = some p := hsf
            rw [hsf'] at H₁₄
            rw [if_neg (show ¬ (some p).isNone = true from Bool.false_ne_true)]
            obtain ⟨u, rfl, Hu⟩ := H₁₄
            refine Subscript_ ?_
            refine MethodCall_ ?_
            refine c_name c₁₄ d_foll ?_
            refine span_call c₁₄ (show A.depth + 1 < recursionLimit from r.room 1) Hu fun s₁₅ T u1 u2 c₁₅ S₁₅ eT hT => ?_
            refine c_intK c₁₅ fun s₁₆ t₁₆ c₁₆ e₁₆ => ?_
            refine pair_item (by rw [e₁₆]; exact eT) (by decide) (by decide) (by rfl) (by rfl) ?_
            exact ⟨u1, rfl, c₁₆, by rw [e₁₆]; exact CH₁₄.k2 (S₁₅.keep2 (lo := 0) nn), by rw [e₁₆]; exact CF₁₄.k2 (S₁₅.keep2 (lo := 0) nn)⟩
        rintro v s₁₅ ⟨tl', rfl, c₁₅, CH₁₅, CF₁₅⟩
        refine c_storeK c₁₅ fun s₁₆ c₁₆' k₁₆ => ?_
        obtain ⟨m₁₆, hm₁₆, c₁₆⟩ := c₁₆'.named
        have f_laid : m₁₆ "laid" = some (.int (nextSeam R col : Nat) tl') := by rw [hm₁₆]; exact if_pos rfl
        have f_places : m₁₆ "places" = some (.ref D₇) := by rw [hm₁₆]; exact (if_neg (by decide)).trans d_places
        have f_width : m₁₆ "width" = some (.int (W : Nat) tW) := by rw [hm₁₆]; exact (if_neg (by decide)).trans d_width
        have f_head : m₁₆ "head" = some (.int (hd : Nat) th) := by rw [hm₁₆]; exact (if_neg (by decide)).trans d_head
        have f_signs : m₁₆ "signs" = some (.str sp ts) := by rw [hm₁₆]; exact (if_neg (by decide)).trans d_signs
        have f_room : m₁₆ "room" = some (.int (rm : Nat) trm) := by rw [hm₁₆]; exact (if_neg (by decide)).trans d_room
        have f_rows : m₁₆ "rows" = some (.ref rl) := by rw [hm₁₆]; exact (if_neg (by decide)).trans d_rows
        clear hm₁₆ c₁₆' d_places d_width d_head d_signs d_room d_rows d_foll H₁₄
        have CH₁₆ : CodesIn qH ps₁₃ s₁₆.heap := CH₁₅.kb (ns_noCode c₁₅.F.ns) k₁₆
        have CF₁₆ : CodesIn qF ps2₉ s₁₆.heap := CF₁₅.kb (ns_noCode c₁₅.F.ns) k₁₆
        clear CH₁₅ CF₁₅ k₁₆ c₁₅ c₁₄ CH₁₄ CF₁₄
        obtain ⟨pl, hpl⟩ : ∃ pl, pl = plF sp R col st sp.cps.size := ⟨_, rfl⟩
        rw [← hpl] at IA
        have hplh : pl.head? = placeOf sp.cps.toList R col st := by rw [hpl]; exact plF_head
        obtain ⟨x0, hx0⟩ : ∃ x0, x0 = (lastBelow [] R (col + 1)).getD 0 := ⟨_, rfl⟩
        refine wpAny_execs_cons ?_
        refine wpAny_mono (Q := fun fl s' => match fl with
          | .next => ∃ m D₈ k₈ vs₈ ps ps2, m "laid" = some (.int (nextSeam R col : Nat) tl') ∧ m "places" = some (.ref D₈) ∧ m "width" = some (.int (W : Nat) tW) ∧ m "head" = some (.int (hd : Nat) th) ∧ m "signs" = some (.str sp ts) ∧ m "room" = some (.int (rm : Nat) trm) ∧ m "rows" = some (.ref rl) ∧
              Cx w g [198, 205] s L m ((D₈, listObj vs₈.toArray k₈) :: Led L o4' o3 o2 o1 rl (listObj (strValues ll).toArray n) ps ps2) s' ∧ CodesIn qH ps s'.heap ∧ CodesIn qF ps2 s'.heap ∧ (L : Nat) + 5 ≤ D₈ ∧ D₈ ≠ rl ∧ IntsAre vs₈ ((if pl.isEmpty && hb then [x0] else pl).map fun (p : Nat) => (p : Int))
          | _ => False) ?_ (fun fl s' hq => ?_) fun _ _ e => e
        · refine wpAny_mid fun P₁ hP₁ => ?_
          have keepOut : ∀ {s' : Shared}, Cx w g [198, 205] s L m₁₆ ((D₇, listObj vs.toArray k₇) :: Led L o4' o3 o2 o1 rl (listObj (strValues ll).toArray n) ps₁₃ ps2₉) s' → CodesIn qH ps₁₃ s'.heap → CodesIn qF ps2₉ s'.heap → (pl.isEmpty && hb) = false → P₁ .next s' := fun c' h1 h2 hf =>
            hP₁ _ _ ⟨m₁₆, D₇, k₇, vs, ps₁₃, ps2₉, f_laid, f_places, f_width, f_head, f_signs, f_room, f_rows, c', h1, h2, hD₇, (hDl₇ _ ledr).symm, by rw [hf]; exact IA⟩
          refine wpAny_If ?_
          refine isTrue_and (wpAny_isTrue_Compare1 ?_)
          refine c_name c₁₆ f_places (List_ (spliced_none (c_listK (vs := []) c₁₆ (fun s₁₇ t0 c₁₇ ht0 k₁₇ => ?_) (Nat.zero_le _))))
          refine eq_empty (vs := vs) (lo_list.at_ (c₁₇.get (.tail _ (.head _)))) (lo_list.at_ (c₁₇.get (.head _))) un (wpAny_truthy_bool ?_)
          have CH₁₇ := CH₁₆.ka k₁₇
          have CF₁₇ := CF₁₆.ka k₁₇
          have c₁₇' := c₁₇.drop (news' := (D₇, listObj vs.toArray k₇) :: Led L o4' o3 o2 o1 rl (listObj (strValues ll).toArray n) ps₁₃ ps2₉) fun p hp => .tail _ hp
          rw [isEmpty_ints IA, List.isEmpty_map]
          cases hpe : pl.isEmpty with
          | false =>
            rw [if_neg (by decide), if_neg (by decide)]
            refine wpAny_execs_nil ?_
            exact keepOut c₁₇' CH₁₇ CF₁₇ (by rw [hpe]; rfl)
          | true =>
            rw [if_pos rfl]
            refine isTrue_and (wpAny_isTrue_Compare1 ?_)
            refine c_name c₁₇' f_head (c_intK c₁₇' fun s₁₈ t₁₈ c₁₈ e₁₈ => gt_int (wpAny_truthy_bool ?_))
            by_cases h0 : 0 < hd
            · rw [decide_eq_true (show (0 : Int) < ((hd : Nat) : Int) by (exact ol36 h0)), if_pos rfl]
              refine isTrue_and (wpAny_isTrue_Compare1 ?_)
              refine c_name c₁₈ f_rows (List_ (spliced_none (c_listK (vs := []) c₁₈ (fun s₁₉ t1 c₁₉ ht1 k₁₉ => ?_) (Nat.zero_le _))))
              refine eq_empty (vs := strValues ll) (lo_list.at_ (c₁₉.get (.tail _ (.tail _ ledr)))) (lo_list.at_ (c₁₉.get (.head _))) un (wpAny_truthy_bool ?_)
              have CH₁₉ : CodesIn qH ps₁₃ s₁₉.heap := CodesIn.ka (by rw [e₁₈]; exact CH₁₇) k₁₉
              have CF₁₉ : CodesIn qF ps2₉ s₁₉.heap := CodesIn.ka (by rw [e₁₈]; exact CF₁₇) k₁₉
              have c₁₉' := c₁₉.drop (news' := (D₇, listObj vs.toArray k₇) :: Led L o4' o3 o2 o1 rl (listObj (strValues ll).toArray n) ps₁₃ ps2₉) fun p hp => .tail _ hp
              have hse : (strValues ll).isEmpty = rowsL.isEmpty := by
                cases ll with
                | nil => cases rowsL with | nil => rfl | cons a b => simp at hlr
                | cons a b => cases rowsL with | nil => simp at hlr | cons a b => rfl
              rw [hse]
              cases hre : rowsL.isEmpty with
              | false =>
                rw [if_neg (by decide), if_neg (by decide)]
                refine wpAny_execs_nil ?_
                exact keepOut c₁₉' CH₁₉ CF₁₉ (by rw [hbe, hre]; simp)
              | true =>
                rw [if_pos rfl]
                refine isTrue_and_nil ?_
                rw [if_pos rfl]
                refine wpAny_execs_cons ?_
                refine wpAny_Assign_Name ?_
                refine Call_ ?_
                refine c_glob c₁₉' (v := .ref 189) ?_ ?_
                · kernel_rfl
                refine callWith_K (K := KK w) c₁₉'.X (by kernel_rfl) ?_
                refine spliced_more ?_
                refine Call_ ?_
                refine c_glob c₁₉' (v := .ref 210) ?_ ?_
                · kernel_rfl
                refine callWith_K (K := KK w) c₁₉'.X (by kernel_rfl) ?_
                refine spliced_more (c_strK c₁₉' fun s₂₀ t₂₀ c₂₀ e₂₀ => spliced_more (c_cell c₂₀ (.tail _ led1) d1 (spliced_none ?_)))
                refine ⟨c₂₀.X, ?_⟩
                refine finder_ok (sg := (Str.ofString "")) c₂₀.ok r.deep.le (c₂₀.get (.tail _ led205)) (by rw [e₂₀]; exact CF₁₉) fun s₂₁ fd' ps2₂₁ O₂₁ S₂₁ T₂₁ CF₂₁ F₂₁ => ?_
                have c₂₁ := c₂₀.call1 (Upd.tail D205 (upd205 hL hrl2)) S₂₁ O₂₁ T₂₁
                have CH₂₁ : CodesIn qH ps₁₃ s₂₁.heap := CodesIn.k2 (by rw [e₂₀]; exact CH₁₉) (S₂₁.keep2 (lo := 0) nk205)
                refine spliced_more (c_cell c₂₁ (.tail _ led2) d2 (spliced_more ?_))
                refine wpAny_BinOp (c_cell c₂₁ (.tail _ led4) d4' (c_intK c₂₁ fun s₂₂ t₂₂ c₂₂ e₂₂ => PyProof.Rows.add_int ?_))
                have c₂₃ := c₂₂.ext (s' := { s₂₂ with toks := s₂₂.toks + 1 }) (fun _ _ e => e) rfl rfl
                refine spliced_none ?_
                refine ⟨c₂₃.X, ?_⟩
                refine srev_ok (s := { s₂₂ with toks := s₂₂.toks + 1 }) c₂₃.ok r.deep.le (by show FinderAt w _ s₂₂.heap _ _ _; rw [e₂₂]; exact F₂₁) hz (c₂₃.get (.tail _ led198)) (by show CodesIn _ _ s₂₂.heap; rw [e₂₂]; exact CH₂₁) (by (exact ol29 hrlen hRl)) fun s₂₄ rv' ps₂₄ O₂₄ S₂₄ T₂₄ CH₂₄ H₂₄ => ?_
                have c₂₄ := c₂₃.call1 (Upd.tail D198 (upd198 hL hrl2)) S₂₄ O₂₄ T₂₄
                have CF₂₄ : CodesIn qF ps2₂₁ s₂₄.heap := CodesIn.k2 (by show CodesIn _ _ s₂₂.heap; rw [e₂₂]; exact CF₂₁) (S₂₄.keep2 (lo := 0) nk198)
                have hlo24 : (L : Nat) + 5 ≤ s₂₂.heap.objs.size := Heap.lt_size (c₂₂.get (.tail _ led4))
                have H₂₄' := H₂₄.mono (lo' := L + 5) hlo24 (Nat.le_trans hL (Nat.le_add_right _ _))
                rw [show (((col : Nat) : Int) + 1).toNat = col + 1 by (exact ol37 hcol), hRt] at H₂₄'
                refine c_storeK c₂₄ fun s₂₅ c₂₅' k₂₅ => ?_
                obtain ⟨m₂₅, hm₂₅, c₂₅⟩ := c₂₅'.named
                have g_hit : m₂₅ "hit" = some rv' := by rw [hm₂₅]; exact if_pos rfl
                have g_laid : m₂₅ "laid" = some (.int (nextSeam R col : Nat) tl') := by rw [hm₂₅]; exact (if_neg (by decide)).trans f_laid
                have g_width : m₂₅ "width" = some (.int (W : Nat) tW) := by rw [hm₂₅]; exact (if_neg (by decide)).trans f_width
                have g_head : m₂₅ "head" = some (.int (hd : Nat) th) := by rw [hm₂₅]; exact (if_neg (by decide)).trans f_head
                have g_signs : m₂₅ "signs" = some (.str sp ts) := by rw [hm₂₅]; exact (if_neg (by decide)).trans f_signs
                have g_room : m₂₅ "room" = some (.int (rm : Nat) trm) := by rw [hm₂₅]; exact (if_neg (by decide)).trans f_room
                have g_rows : m₂₅ "rows" = some (.ref rl) := by rw [hm₂₅]; exact (if_neg (by decide)).trans f_rows
                clear hm₂₅ c₂₅'
                have hLlo' : (L : Nat) < L + 5 := Nat.lt_add_of_pos_right (by decide)
                have H₂₅ := H₂₄'.keep (keep2_but (h' := s₂₅.heap) hLlo' (ns_noCode c₂₄.F.ns) k₂₅)
                have CH₂₅ : CodesIn qH ps₂₄ s₂₅.heap := CH₂₄.kb (ns_noCode c₂₄.F.ns) k₂₅
                have CF₂₅ : CodesIn qF ps2₂₁ s₂₅.heap := CF₂₄.kb (ns_noCode c₂₄.F.ns) k₂₅
                refine wpAny_execs_cons ?_
                refine wpAny_Assign_Name ?_
                refine List_ (spliced_more ?_)
                refine wpAny_mono (Q := fun v s' => ∃ tp, v = Value.int ((x0 : Nat) : Int) tp ∧ Cx w g [198, 205] s L m₂₅ ((D₇, listObj vs.toArray k₇) :: Led L o4' o3 o2 o1 rl (listObj (strValues ll).toArray n) ps₂₄ ps2₂₁) s' ∧ CodesIn qH ps₂₄ s'.heap ∧ CodesIn qF ps2₂₁ s'.heap) (IfExp_ (wpAny_isTrue_Compare1 ?_)) ?_ fun _ _ e => e
                · refine c_name c₂₅ g_hit (wpAny_Constant_none (is_none (hro H₂₅).1 (wpAny_truthy_bool ?_)))
                  rw [(hro H₂₅).2]
                  rw [show (Str.ofString "").cps.toList = ([] : List Nat) from rfl]
                  cases hlb : lastBelow [] R (col + 1) with
                  | none =>
                    have hlb' : lastBelow (Str.ofString "").cps.toList R (col + 1) = none := hlb
                    rw [if_pos (by rfl)]
                    refine c_intK c₂₅ fun s₂₆ t₂₆ c₂₆ e₂₆ => ?_
                    exact ⟨t₂₆, by rw [hx0, hlb]; rfl, c₂₆, by rw [e₂₆]; exact CH₂₅, by rw [e₂₆]; exact CF₂₅⟩
                  | some p =>
                    have hlb' : lastBelow (Str.ofString "").cps.toList R (col + 1) = some p := hlb
                    rw [if_neg (show ¬ (some p).isNone = true from Bool.false_ne_true)]
                    rw [hlb'] at H₂₅
                    obtain ⟨u, rfl, Hu⟩ := H₂₅
                    refine Subscript_ ?_
                    refine MethodCall_ ?_
                    refine c_name c₂₅ g_hit ?_
                    refine span_call c₂₅ (show A.depth + 1 < recursionLimit from r.room 1) Hu fun s₂₆ T u1 u2 c₂₆ S₂₆ eT hT => ?_
                    refine c_intK c₂₆ fun s₂₇ t₂₇ c₂₇ e₂₇ => ?_
                    refine pair_item (by rw [e₂₇]; exact eT) (by decide) (by decide) (by rfl) (by rfl) ?_
                    exact ⟨u1, by rw [hx0, hlb]; rfl, c₂₇, by rw [e₂₇]; exact CH₂₅.k2 (S₂₆.keep2 (lo := 0) nn), by rw [e₂₇]; exact CF₂₅.k2 (S₂₆.keep2 (lo := 0) nn)⟩
                · rintro v s₂₆ ⟨tp, rfl, c₂₆, CH₂₆, CF₂₆⟩
                  refine spliced_none ?_
                  refine c_listK (vs := [.int ((x0 : Nat) : Int) tp]) c₂₆ (fun s₂₇ D₈ c₂₇ hD₈ k₂₇ => ?_) (by show (1 : Nat) ≤ 1000; decide)
                  have hD₈5 : (L : Nat) + 5 ≤ D₈ := hD₈ ▸ Heap.lt_size (c₂₆.get (.tail _ led4))
                  have hD₈r : D₈ ≠ rl := fun q => absurd (Heap.lt_size (c₂₆.get (.tail _ ledr))) (by rw [← q, ← hD₈]; exact Nat.lt_irrefl _)
                  refine c_storeK (c₂₇.drop (news' := (D₈, listObj [Value.int ((x0 : Nat) : Int) tp].toArray 0) :: Led L o4' o3 o2 o1 rl (listObj (strValues ll).toArray n) ps₂₄ ps2₂₁) fun p hp => by cases hp with | head => exact .head _ | tail _ hp => exact .tail _ (.tail _ hp)) fun s₂₈ c₂₈ k₂₈ => ?_
                  refine wpAny_execs_nil ?_
                  refine hP₁ _ _ ⟨_, D₈, 0, [.int ((x0 : Nat) : Int) tp], ps₂₄, ps2₂₁, (if_neg (by decide)).trans g_laid, if_pos rfl, (if_neg (by decide)).trans g_width, (if_neg (by decide)).trans g_head, (if_neg (by decide)).trans g_signs, (if_neg (by decide)).trans g_room, (if_neg (by decide)).trans g_rows, c₂₈, (CH₂₆.ka k₂₇).kb (ns_noCode c₂₇.F.ns) k₂₈, (CF₂₆.ka k₂₇).kb (ns_noCode c₂₇.F.ns) k₂₈, hD₈5, hD₈r, ?_⟩
                  rw [hpe, hbe, hre, decide_eq_true h0]
                  exact .cons _ _ .nil
            · rw [decide_eq_false (show ¬ (0 : Int) < ((hd : Nat) : Int) by (exact ol38 h0)), if_neg (by decide), if_neg (by decide)]
              refine wpAny_execs_nil ?_
              exact keepOut c₁₈ (by rw [e₁₈]; exact CH₁₇) (by rw [e₁₈]; exact CF₁₇) (by rw [hbe, decide_eq_false h0]; simp)
        · match fl, hq with
          | .next, hq =>
            obtain ⟨m₂, D₈, k₈, vs₈, ps₈, ps2₈, g_laid, g_places, g_width, g_head, g_signs, g_room, g_rows, e₁, CHe, CFe, hD₈, hDr, IA₈⟩ := hq
            obtain ⟨N', rfl⟩ : ∃ N', N = N' + 1 := ⟨N - 1, by (exact ol31 hk hfuel)⟩
            have hRc : col < R.length := Nat.lt_of_not_le hlen
            have hldc : ld ≤ col := by (exact ol39 hcol)
            obtain ⟨nx, hnx⟩ : ∃ nx, nx = nextSeam R col := ⟨_, rfl⟩
            have hnx1 : col < nx ∧ nx ≤ R.length := by
              rw [hnx]
              unfold nextSeam
              cases hsf : seamFrom [] R (col + 1) with
              | none => exact ⟨hRc, Nat.le_refl _⟩
              | some p =>
                obtain ⟨q1, q2, q3, q4⟩ := firstSeam_some (by exact hsf)
                have := seam_lt q3
                rw [Option.getD_some]
                (exact ol40 hRl hcol q1 q2 this)
            rw [← hnx] at g_laid
            obtain ⟨oo, hoo⟩ : ∃ oo, oo = (placeOf sp.cps.toList R col st).or (if hb then some x0 else none) := ⟨_, rfl⟩
            rw [rows2, ← hcol, if_neg hlen, ← hx0, ← hoo, ← hnx] at htot
            obtain ⟨pl2, hpl2⟩ : ∃ pl2, pl2 = if pl.isEmpty && hb then [x0] else pl := ⟨_, rfl⟩
            rw [← hpl2] at IA₈
            have hoo2 : oo = pl2.head? := by
              rw [hoo, ← hplh, hpl2]
              cases pl with
              | nil => cases hb <;> rfl
              | cons a b => rfl
            refine wpAny_execs_cons ?_
            refine wpAny_If (wpAny_isTrue_Compare1 ?_)
            refine c_name e₁ g_places (List_ (spliced_none (c_listK (vs := []) e₁ (fun z₂ t0 e₂ ht0 k₂ => ?_) (Nat.zero_le _))))
            refine ne_empty (vs := vs₈) (lo_list.at_ (e₂.get (.tail _ (.head _)))) (lo_list.at_ (e₂.get (.head _))) un (wpAny_truthy_bool ?_)
            have CH₂ := CHe.ka k₂
            have CF₂ := CFe.ka k₂
            have e₃ := e₂.drop (news' := (D₈, listObj vs₈.toArray k₈) :: Led L o4' o3 o2 o1 rl (listObj (strValues ll).toArray n) ps₈ ps2₈) fun p hp => .tail _ hp
            rw [isEmpty_ints IA₈, List.isEmpty_map]
            cases hp2 : pl2 with
            | nil =>
              rw [if_neg (by decide)]
              refine wpAny_execs_nil ?_
              refine wpAny_execs_nil ?_
              rw [hoo2, hp2] at htot
              refine hP' _ _ ⟨(R.length - nx) + hb.toNat, by (exact ol41 hk hldl hRl hcol hlen hldc hnx hnx1), R, st, nx, rm, hb, rowsL, N', m₂, o4', o3, o2, o1, ll, n, ps₈, ps2₈, {
                hk := rfl
                tot := htot
                fuel := by (exact ol42 hk hldl hRl hcol hlen hfuel hldc hnx hnx1)
                hbe := hbe
                rlen := hrlen
                stl := hstl
                st0 := hst0
                ldl := hnx1.2
                rml := hrml
                cnt := by (exact ol43 hk hldl hcnt hRl hlr hcol hlen hldc hnx hnx1)
                n_width := g_width
                n_head := g_head
                n_signs := g_signs
                n_laid := ⟨_, g_laid⟩
                n_room := ⟨_, g_room⟩
                n_rows := g_rows
                d4 := ⟨_, d4'⟩
                d3 := ⟨_, d3⟩
                d2 := ⟨_, d2⟩
                d1 := d1
                c := e₃.drop fun p hp => .tail _ hp
                hll := hll
                CH := CH₂
                CF := CF₂ }⟩
            | cons p rest =>
              rw [if_pos (by rfl)]
              rw [hoo2, hp2] at htot
              rw [hp2] at IA₈
              simp only [List.head?_cons] at htot
              have hoop : oo = some p := by rw [hoo2, hp2]; rfl
              have hpf : st ≤ p ∧ p < R.length ∧ (hb = false → ∃ c, R[p]? = some c ∧ isW c = true) := by
                rw [hoo] at hoop
                cases hplo : placeOf sp.cps.toList R col st with
                | some p' =>
                  rw [hplo] at hoop
                  cases hoop
                  unfold placeOf at hplo
                  obtain ⟨c0, _, e0⟩ := List.exists_of_findSome?_eq_some hplo
                  obtain ⟨e1, e2⟩ := Option.filter_eq_some_iff.mp e0
                  have hs := (lastBelow_seam2 e1).2
                  have hl := seam_lt hs
                  obtain ⟨ch, b, s1, s2, s3, _⟩ := seam_at hs
                  exact ⟨Nat.le_of_lt (of_decide_eq_true e2), hl.2, fun _ => ⟨ch, s1, s3⟩⟩
                | none =>
                  rw [hplo] at hoop
                  cases hbb : hb with
                  | false => rw [hbb] at hoop; cases hoop
                  | true =>
                    rw [hbb] at hoop
                    have hx0p : x0 = p := by simpa using hoop
                    refine ⟨by rw [hst0 hbb]; exact Nat.zero_le _, ?_, fun q => by cases q⟩
                    rw [← hx0p, hx0]
                    cases hlb : lastBelow [] R (col + 1) with
                    | none => show 0 < R.length; (exact ol44 hRl hcol hlen)
                    | some q => exact (seam_lt (lastBelow_seam2 hlb).2).2
              obtain ⟨hpst, hpR, hpw⟩ := hpf
              obtain ⟨cc, hcc⟩ : ∃ cc, R[p]? = some cc := ⟨_, List.getElem?_eq_getElem hpR⟩
              obtain ⟨tp, vs', hvs'⟩ := ints_first IA₈
              have item0 : vs₈.toArray[0]? = some (.int ((p : Nat) : Int) tp) := by rw [hvs']; rfl
              have up : ∀ {o' : Obj}, Upd rl (listObj (strValues ll).toArray n) o' ((D₈, listObj vs₈.toArray k₈) :: Led L o4' o3 o2 o1 rl (listObj (strValues ll).toArray n) ps₈ ps2₈) ((D₈, listObj vs₈.toArray k₈) :: Led L o4' o3 o2 o1 rl o' ps₈ ps2₈) := Upd.tail hDr (updr hL hrl5)
              have D8o : ∀ {i : Nat}, i < 5 → D₈ ≠ L + i := fun {i} hi q => by rw [q] at hD₈; exact absurd (show (5 : Nat) ≤ i from Nat.le_of_add_le_add_left hD₈) (Nat.not_le.mpr hi)
              refine wpAny_execs_cons ?_
              refine wpAny_Expr ?_
              refine MethodCall_ ?_
              refine c_name e₃ g_rows ?_
              refine getMethod_list_append (e₃.get (.tail _ ledr)) rfl rfl ?_
              refine callWith_method1 ?_
              refine spliced_more ?_
              refine Subscript_ (c_cell e₃ (.tail _ led2) d2 ?_)
              refine wpAny_Slice (wpAny_evalPart_some (c_cell e₃ (.tail _ led3) d3 (wpAny_evalPart_some ?_)))
              refine Subscript_ (c_name e₃ g_places (c_intK e₃ fun z₃ t₃ e₄ q₃ => ?_))
              refine nth_item (k := 0) (lo_list.at_ (e₄.get (.head _))) (by decide) item0 (wpAny_evalPart_none ?_)
              refine s_mid hpst (by rw [hRt]; exact Nat.le_of_lt hpR) (by (exact ol29 hrlen hRl)) fun h₅ t₅ tk₅ k₅ => ?_
              rw [hRt]
              have e₅ := e₄.ext (s' := { z₃ with heap := h₅, toks := tk₅ }) k₅ rfl rfl
              have CH₅ : CodesIn qH ps₈ h₅ := CodesIn.ka (by rw [q₃]; exact CH₂) k₅
              have CF₅ : CodesIn qF ps2₈ h₅ := CodesIn.ka (by rw [q₃]; exact CF₂) k₅
              refine spliced_none ?_
              refine list_app (e₅.get (.tail _ ledr)) (by simp [strValues]; (exact ol45 hk hcnt hlr)) fun z₆ hs₆ er₆ hg₆ ho₆ => ?_
              have e₆ := e₅.upd up hrl2 hs₆ er₆ hg₆ ho₆
              have CH₆ : CodesIn qH ps₈ z₆.heap := CH₅.kb (list_noCode (e₅.get (.tail _ ledr))) fun b o hb e => hs₆.extBut b o hb e
              have CF₆ : CodesIn qF ps2₈ z₆.heap := CF₅.kb (list_noCode (e₅.get (.tail _ ledr))) fun b o hb e => hs₆.extBut b o hb e
              have hv : (strValues ll).toArray.push (Value.str (ofL ((R.drop st).take (p - st))) t₅) = (strValues (ll ++ [(ofL ((R.drop st).take (p - st)), t₅)])).toArray := by
                apply Array.ext'; simp [strValues]
              rw [hv] at e₆
              refine wpAny_execs_cons ?_
              refine wpAny_Assign_Name ?_
              refine Subscript_ (c_name e₆ g_places (c_intK e₆ fun z₇ t₇ e₇ q₇ => ?_))
              refine nth_item (k := 0) (lo_list.at_ (e₇.get (.head _))) (by decide) item0 ?_
              refine c_storeC (x := "start") (o := o3) (g' := fun o' => (D₈, listObj vs₈.toArray k₈) :: Led L o4' o' o2 o1 rl (listObj (strValues (ll ++ [(ofL ((R.drop st).take (p - st)), t₅)])).toArray (n + 1)) ps₈ ps2₈) e₇ rfl (fun o' => Upd.tail (D8o (by decide)) (upd3 hL hrl5)) (Nat.le_trans hL (Nat.le_add_right _ _)) d3 fun z₈ o3' d3' e₈ k₈' => ?_
              have nc3 := cell_noCode (e₇.get (.tail _ led3)) d3
              have CH₈ : CodesIn qH ps₈ z₈.heap := CodesIn.kb (by rw [q₇]; exact CH₆) nc3 k₈'
              have CF₈ : CodesIn qF ps2₈ z₈.heap := CodesIn.kb (by rw [q₇]; exact CF₆) nc3 k₈'
              refine wpAny_execs_cons ?_
              refine wpAny_Assign_Name ?_
              refine c_name e₈ g_width ?_
              refine c_storeK e₈ fun z₉ e₉' k₉ => ?_
              obtain ⟨m₉, hm₉, e₉⟩ := e₉'.named
              have h_laid : m₉ "laid" = some (.int (nx : Nat) tl') := by rw [hm₉]; exact (if_neg (by decide)).trans g_laid
              have h_width : m₉ "width" = some (.int (W : Nat) tW) := by rw [hm₉]; exact (if_neg (by decide)).trans g_width
              have h_head : m₉ "head" = some (.int (hd : Nat) th) := by rw [hm₉]; exact (if_neg (by decide)).trans g_head
              have h_signs : m₉ "signs" = some (.str sp ts) := by rw [hm₉]; exact (if_neg (by decide)).trans g_signs
              have h_room : m₉ "room" = some (.int (W : Nat) tW) := by rw [hm₉]; exact if_pos rfl
              have h_rows : m₉ "rows" = some (.ref rl) := by rw [hm₉]; exact (if_neg (by decide)).trans g_rows
              clear hm₉ e₉'
              have CH₉ : CodesIn qH ps₈ z₉.heap := CH₈.kb (ns_noCode e₈.F.ns) k₉
              have CF₉ : CodesIn qF ps2₈ z₉.heap := CF₈.kb (ns_noCode e₈.F.ns) k₉
              have hdr : R.drop p = cc :: R.drop (p + 1) := by
                have e0 := List.getElem?_eq_getElem hpR
                rw [e0] at hcc
                cases hcc
                exact List.drop_eq_getElem_cons hpR
              have finish : ∀ {R' : List Nat} {z : Shared} {o2' : Obj}, putBlank R p = R' → p ≤ R'.length → nx ≤ R'.length → (R'.length - nx) < k → R'.length ≤ 901 → (∃ t, o2'.data = .cell (some (.str (ofL R') t))) → Cx w g [198, 205] s L m₉ ((D₈, listObj vs₈.toArray k₈) :: Led L o4' o3' o2' o1 rl (listObj (strValues (ll ++ [(ofL ((R.drop st).take (p - st)), t₅)])).toArray (n + 1)) ps₈ ps2₈) z → CodesIn qH ps₈ z.heap → CodesIn qF ps2₈ z.heap → P' .next z := fun {R' z o2'} hpb hpl' hnl hkl hrl' hd2 cz hch hcf => hP' _ _ ⟨R'.length - nx, hkl, R', p, nx, W, false, rowsL ++ [(R.drop st).take (p - st)], N', m₉, o4', o3', o2', o1, ll ++ [(ofL ((R.drop st).take (p - st)), t₅)], n + 1, ps₈, ps2₈, {
                hk := rfl
                tot := by rw [htot, hpb]; simp
                fuel := by (exact ol46 hk hfuel hkl)
                hbe := by simp
                rlen := hrl'
                stl := hpl'
                st0 := fun q => by cases q
                ldl := hnl
                rml := hW
                cnt := by rw [List.length_append, List.length_singleton]; (exact ol47 hk hcnt hlr hkl)
                n_width := h_width
                n_head := h_head
                n_signs := h_signs
                n_laid := ⟨_, h_laid⟩
                n_room := ⟨_, h_room⟩
                n_rows := h_rows
                d4 := ⟨_, d4'⟩
                d3 := ⟨_, d3'⟩
                d2 := hd2
                d1 := d1
                c := cz.drop fun p hp => .tail _ hp
                hll := by simp [hll]
                CH := hch
                CF := hcf }⟩
              refine wpAny_execs_cons ?_
              refine wpAny_If (wpAny_isTrue_Compare1 ?_)
              refine Subscript_ (c_cell e₉ (.tail _ led2) d2 (c_cell e₉ (.tail _ led3) d3' ?_))
              refine sign_item (c := cc) (by rw [Bool.or_eq_false_iff]; exact ⟨decide_eq_false (by lia), decide_eq_false (by lia)⟩) (seq_at (x := ofL R) (p := p) (by rw [hRt]; exact hcc)) ?_
              have e₁₀ := e₉.ext (s' := { z₉ with toks := z₉.toks + 1 }) (fun _ _ e => e) rfl rfl
              refine c_strK e₁₀ fun z₁₁ t₁₁ e₁₁ q₁₁ => ?_
              refine P.notIn_str ?_
              refine wpAny_truthy_bool ?_
              rw [show (!(Builtin.Str.occurrences (Str.ofString " \t") ⟨#[cc]⟩ 0 (Str.ofString " \t").length 1).isEmpty) = isW cc from white_in cc]
              cases hwc : isW cc with
              | true =>
                rw [if_neg (by decide)]
                refine wpAny_execs_nil ?_
                refine wpAny_execs_nil ?_
                refine wpAny_execs_nil ?_
                refine finish (R' := R) ?_ (Nat.le_of_lt hpR) hnx1.2 (by (exact ol50 hk hldl hRl hcol hlen hldc hnx hnx1)) (by (exact ol51 hrlen hRl)) ⟨_, d2⟩ e₁₁ (by rw [q₁₁]; exact CH₉) (by rw [q₁₁]; exact CF₉)
                unfold putBlank
                rw [hdr]; dsimp only; rw [hwc, if_pos rfl]
              | false =>
                have hbt : hb = true := by
                  cases hbb : hb with
                  | true => rfl
                  | false =>
                    obtain ⟨c0, q1, q2⟩ := hpw hbb
                    rw [hcc] at q1; cases q1
                    rw [hwc] at q2; cases q2
                rw [if_pos (by decide)]
                refine wpAny_execs_cons ?_
                refine wpAny_Assign_Name ?_
                refine wpAny_BinOp (c_strK e₁₁ fun z₁₂ t₁₂ e₁₂ q₁₂ => c_cell e₁₂ (.tail _ led2) d2 (PyProof.Rows.add_str (fun t' tk' => ?_) ?_))
                · have e₁₃ := e₁₂.ext (s' := { z₁₂ with toks := tk' }) (fun _ _ e => e) rfl rfl
                  refine c_storeC (x := "rest") (o := o2) (g' := fun o' => (D₈, listObj vs₈.toArray k₈) :: Led L o4' o3' o' o1 rl (listObj (strValues (ll ++ [(ofL ((R.drop st).take (p - st)), t₅)])).toArray (n + 1)) ps₈ ps2₈) e₁₃ rfl (fun o' => Upd.tail (D8o (by decide)) (upd2 hL hrl5)) (Nat.le_trans hL (Nat.le_add_right _ _)) d2 fun z₁₄ o2' d2' e₁₄ k₁₄ => ?_
                  have nc2 := cell_noCode (e₁₃.get (.tail _ led2)) d2
                  have hbl : hb.toNat = 1 := by rw [hbt]; rfl
                  refine wpAny_execs_nil ?_
                  refine wpAny_execs_nil ?_
                  refine wpAny_execs_nil ?_
                  refine finish (R' := 32 :: R) ?_ (by simp; (exact ol52 hRl hpR)) (by simp; (exact ol53 hRl hnx hnx1)) (by simp; (exact ol54 hk hldl hRl hcol hlen hldc hnx hnx1 hbl)) (by simp; (exact ol55 hrlen hRl hbl)) ⟨t', ?_⟩ e₁₄ (CodesIn.kb (by show CodesIn _ _ z₁₂.heap; rw [q₁₂, q₁₁]; exact CH₉) nc2 k₁₄) (CodesIn.kb (by show CodesIn _ _ z₁₂.heap; rw [q₁₂, q₁₁]; exact CF₉) nc2 k₁₄)
                  · unfold putBlank
                    rw [hdr]; dsimp only; rw [hwc, if_neg (by decide)]
                  · rw [d2']
                    have : (Str.ofString " ") ++ ofL R = ofL (32 :: R) := by
                      show ofL [32] ++ ofL R = _
                      rw [ofL_append]; simp [ofL]
                    rw [this]
                · rw [hRl]
                  show 1 + R.length ≤ sizeLine
                  have : 1000000 ≤ sizeLine := by decide
                  (exact ol56 hrlen hRl this)
    · match fl, hq with
      | .ret v, hq => exact hq
  · simp only [List.mem_cons, List.not_mem_nil, or_false] at hx
    rcases hx with rfl | rfl | rfl | rfl | rfl
    · exact .inl rfl
    · exact .inl rfl
    · exact .inl rfl
    · exact .inl rfl
    · exact .inr ⟨rfl, rfl⟩
  · exact cells_hab n q hq
end
end Mine
end

section
open PySem PySem.W PySem.Calls PyProof.Rows
set_option maxRecDepth 100000
set_option maxHeartbeats 8000000
namespace Mine
theorem take_next {T : List Nat} {j c : Nat} (h : T[j]? = some c) : T.take (j + 1) = T.take j ++ [c] := by
  rw [List.take_succ, h]; rfl
section
variable {w : World} {A : Around} {E : Value → Shared → Prop} {s : Shared} {g : Heap} {ws : List Addr} {s₀ : Shared} {L : Addr} {m : Str → Option Value} {cn : Str} {cs : Scope} {a : Addr} {ccd : Value} {cl : List (Str × Addr)}
theorem aug_last {R l : Addr} {oR ol : Obj} {rs : List Value} {kl k : Nat} {v1 v2 : Value} {x y : Str} {tx ty : Tok} {p1 p2 p3 p4 p5 p6 p7 p8 : Pos} {k1 k2 : Nat} {Q : Flow → Shared → Prop}
    (c : Cx w g ws s₀ L m [(R, oR), (l, ol)] s) (hp : m "pieces" = some (.ref l)) (hs : m "sign" = some (.str y ty)) (ho : LO #[v1, v2] oR) (hl : ol = listObj (rs ++ [Value.ref R]).toArray kl) (hRl : R ≠ l) (hR : (221 : Nat) ≤ R) (hk : k < 2) (hv : (#[v1, v2] : Array Value)[k]? = some (.str x tx)) (hx : x.length + y.length ≤ 1000)
    (h : ∀ s' oR' t', Cx w g ws s₀ L m [(R, oR'), (l, ol)] s' → LO ((#[v1, v2] : Array Value).setIfInBounds k (.str (x ++ y) t')) oR' → (∀ b o, b ≠ R → s.heap.get? b = some o → s'.heap.get? b = some o) → Q .next s')
    (hkk : cs.kind = .function := by rfl) (hx1 : (envX cn cs L a ccd cl).kindOf "pieces" = some .local := by rfl) (hx2 : (envX cn cs L a ccd cl).kindOf "sign" = some .local := by rfl) :
    wpAny (model PG w) A (exec (.AugAssign (.Subscript (.Subscript (.Name "pieces" p1) (.UnaryOp .USub (.Constant (.int 1) k1 p2) p3) p4) (.Constant (.int (k : Nat)) k2 p5) p6) .Add (.Name "sign" p7) p8) (envX cn cs L a ccd cl)) Q E s := by
  refine wpAny_AugAssign_SubscriptAny ?_
  refine Subscript_ (c_name c hp ?_ hkk hx1)
  refine UnaryOp_ ?_
  refine c_intK c fun s₂ t₂ c₂ e₂ => ?_
  refine PyProof.Rows.neg_int ?_
  have c₃ := c₂.ext (s' := { s₂ with toks := s₂.toks + 1 }) (fun _ _ e => e) rfl rfl
  have il : ∀ {s' : Shared} {o}, Cx w g ws s₀ L m [(R, o), (l, ol)] s' → s'.heap.IsList l (rs ++ [Value.ref R]).toArray := fun c => ⟨_, c.get (.tail _ (.head _)), by rw [hl], _, by rw [hl]⟩
  refine last_item (v := .ref R) (il c₃) (by simp) ?_
  refine c_intK c₃ fun s₄ t₄ c₄ e₄ => ?_
  refine wpAny_getItem_list (x := .str x tx) (ho.at_ (c₄.get (.head _))) (Int.natCast_nonneg _) (by omega) (by simpa using hv) ?_
  refine c_name c₄ hs ?_ hkk hx2
  refine PyProof.Rows.iadd_str (fun t' tk' => ?_) (Nat.le_trans hx (by decide))
  have c₅ := c₄.ext (s' := { s₄ with toks := tk' }) (fun _ _ e => e) rfl rfl
  refine wpAny_setItem_list (ho.at_ (c₅.get (.head _))) (Int.natCast_nonneg _) (by omega) (by show (k : Int) < ((2 : Nat) : Int); (exact ol7 hk)) fun h' hl' hs' => ?_
  obtain ⟨oR', eR', hc', hd'⟩ := hl'
  have c₆ := c₅.upd (s' := { s₄ with heap := h', toks := tk' }) (Upd.head (o' := oR') (fun q hq => by cases hq with | head => exact Ne.symm hRl | tail _ h => cases h)) hR hs' eR' rfl rfl
  refine h _ oR' t' c₆ ⟨hc', by simpa using hd'⟩ fun b o hb e => hs'.extBut b o hb (by show s₄.heap.get? b = _; rw [e₄]; show s₂.heap.get? b = _; rw [e₂]; exact e)
end
end Mine
end

section
open PySem PySem.W PySem.Calls PyProof.Rows
set_option maxRecDepth 100000
set_option maxHeartbeats 8000000
namespace Mine
section
variable {w : World} {A : Around} {E : Value → Shared → Prop} {s : Shared} {Q : Value → Shared → Prop}
theorem pieces_ok {T : List Nat} {t : Tok} (O : Ok w s) (r : Rm A 4) (hT : T ≠ []) (hTl : T.length ≤ 900)
    (h : ∀ s' l rs, Ok w s' → St [] s s' → s'.heap.IsList l rs.toArray → s.heap.objs.size ≤ l → PcsAt (fun b => s.heap.objs.size ≤ b ∧ b ≠ l) s'.heap rs (pairs T) → Q (.ref l) s') :
    wpAny (model PG w) A (call (.ref 196) [.str (ofL T) t]) Q E s := by
  have big : (221 : Nat) ≤ s.heap.objs.size := (base_of (own := []) O.gd no_own).2
  refine c_enter (binds := [("text", .str (ofL T) t)]) [] O r.room no_own fun g L s₁ c => ?_
  have hL : s.heap.objs.size = L := c.hL
  refine wpAny_execs_cons ?_
  refine wpAny_Assign_Name ?_
  refine List_ ?_
  refine spliced_more (List_ ?_)
  refine spliced_more (c_strK c fun s₂ t1 c₂ e₂ => spliced_more (c_strK c₂ fun s₃ t2 c₃ e₃ => spliced_none ?_))
  refine c_listK (vs := [.str (Str.ofString "") t1, .str (Str.ofString "") t2]) c₃ (fun s₄ R c₄ hR k₄ => ?_) (by show (2 : Nat) ≤ 1000; decide)
  refine spliced_none ?_
  refine c_listK (vs := [.ref R]) c₄ (fun s₅ l c₅ hl k₅ => ?_) (by show (1 : Nat) ≤ 1000; decide)
  have lL : (L : Nat) < R := hL ▸ hR ▸ c₃.lt
  have lRl : (R : Nat) < l := hl ▸ Heap.lt_size (c₄.get (.head _))
  have big' : (221 : Nat) ≤ L := hL ▸ big
  refine c_storeK c₅ fun s₆ c₆' k₆ => ?_
  obtain ⟨m₆, hm₆, c₆⟩ := c₆'.named
  have n_text : m₆ "text" = some (.str (ofL T) t) := by rw [hm₆]; exact (if_neg (by decide)).trans rfl
  have n_pieces : m₆ "pieces" = some (.ref l) := by rw [hm₆]; exact if_pos rfl
  clear hm₆ c₆'
  replace c₆ : Cx w g [] s L m₆ [(R, listObj #[.str (Str.ofString "") t1, .str (Str.ofString "") t2] 0), (l, listObj #[.ref R] 0)] s₆ := c₆.drop fun p hp => by
    cases hp with
    | head => exact .tail _ (.head _)
    | tail _ hp => cases hp with
      | head => exact .head _
      | tail _ hp => cases hp
  refine wpAny_execs_cons ?_
  refine wpAny_mono (Q := fun fl s' => match fl with
    | .next => ∃ m news I, PcI T L L l I T.length m news s'.heap ∧ Cx w g [] s L m news s'
    | _ => False) ?_ ?_ fun _ _ e => e
  · refine wpAny_mid fun P' hP' => ?_
    refine wpAny_For ?_
    refine c_name c₆ n_text ?_
    refine pyIter_str fun o S Wk hlive hS => ?_
    have c₇ := c₆.ext (s' := { s₆ with heap := s₆.heap.push o }) (fun _ _ e => Heap.get?_push_of_some _ e) rfl rfl
    obtain ⟨hI1, hI2, hI3, hI4⟩ := c₆.fresh (Nat.le_refl _)
    have hsz : (ofL T).cps.size = T.length := by unfold ofL; simp
    have hlI : (l : Nat) < s₆.heap.objs.size := Heap.lt_size (c₆.get (.tail _ (.head _)))
    generalize hIe : s₆.heap.objs.size = I at *
    refine r_forG (Wk _ (by exact r.hd)) hI1 hI2 hI3 (PcI T L L l I) (fun j m news h h' hJ k => ?_) ?_ ?_ c₇ ⟨[], [], [], [], R, _, _, t1, t2, rfl, n_pieces, rfl, lo_list, ⟨0, rfl⟩, ⟨rfl, fun k p e => by simp at e⟩, Nat.ne_of_lt lRl, Nat.le_of_lt lL, Nat.le_refl _⟩ hI4 hS
    · obtain ⟨init, wh, nn, rs, R, oR, ol, t1, t2, a1, a2, a3, a4, a5, a6, a7, a8, a9⟩ := hJ
      exact ⟨init, wh, nn, rs, R, oR, ol, t1, t2, a1, a2, a3, a4, a5, a6.keep fun b o hb e => k b o hb.2.2.2.2 e, a7, a8, a9⟩
    · intro j v m news s₈ hj hJ c₈ hnI hP hSt
      obtain ⟨oI, eI⟩ := hlive _ _ hSt
      obtain ⟨init, wh, nn, rs, R, oR, ol, t1, t2, a1, a2, rfl, a4, a5, a6, a7, a8, a9⟩ := hJ
      obtain ⟨cc, uc, hcc, rfl⟩ := hP
      have hcT : T[j]? = some cc := by rw [← Array.getElem?_toList] at hcc; exact hcc
      have hRI : R ≠ I := hnI (R, oR) (.head _)
      have hlI' : l ≠ I := hnI (l, ol) (.tail _ (.head _))
      have b6 := a6
      refine wpAny_assign_Name (c_storeK c₈ fun s₉ c₉' k₉ => ?_)
      obtain ⟨m₉, hm₉, c₉⟩ := c₉'.named
      have n_sign : m₉ "sign" = some (.str ⟨#[cc]⟩ uc) := by rw [hm₉]; exact if_pos rfl
      have n_pieces₉ : m₉ "pieces" = some (.ref l) := by rw [hm₉]; exact (if_neg (by decide)).trans a2
      clear hm₉ c₉'
      have p₉ := a6.keep (h' := s₉.heap) fun b o hb e => k₉ b o hb.2.2.2.1 e
      have fin : ∀ {s' : Shared} {init' wh' nn' rs' R' oR' ol' u1 u2 kl'}, pstep (init, wh, nn) cc = (init', wh', nn') → Cx w g [] s L m₉ [(R', oR'), (l, ol')] s' → LO #[.str (ofL wh') u1, .str (ofL nn') u2] oR' → ol' = listObj (rs' ++ [Value.ref R']).toArray kl' →
          PcsAt (fun b => L ≤ b ∧ b ≠ R' ∧ b ≠ l ∧ b ≠ L ∧ b ≠ I) s'.heap rs' init' → R' ≠ l → L ≤ R' → R' ≠ I → init'.length + wh'.length + nn'.length ≤ init.length + wh.length + nn.length + 1 → (∀ o, s₈.heap.get? I = some o → s'.heap.get? I = some o) →
          ∃ m' news', PcI T L L l I (j + 1) m' news' s'.heap ∧ Cx w g [] s L m' news' s' ∧ (∀ p ∈ news', p.1 ≠ I) ∧ (∀ b ∈ [I], ∀ o, s₈.heap.get? b = some o → s'.heap.get? b = some o) := fun e1 c' e2 e3 e4 e5 e6 e7 e9 e8 =>
        ⟨m₉, _, ⟨_, _, _, _, _, _, _, _, _, by rw [take_next hcT, List.foldl_append, a1]; exact e1, n_pieces₉, rfl, e2, ⟨_, e3⟩, e4, e5, e6, by (exact ol8 a9 e9)⟩, c', (fun p hp => by
          cases hp with
          | head => exact e7
          | tail _ hp => cases hp with
            | head => exact hlI'
            | tail _ hp => cases hp), fun b hb o e => by rw [List.mem_singleton] at hb; subst hb; exact e8 o e⟩
      refine wpAny_execs_cons ?_
      refine wpAny_If (wpAny_isTrue_Compare1 ?_)
      refine c_name c₉ n_sign (c_strK c₉ fun s₁₀ t₁₀ c₁₀ e₁₀ => ?_)
      refine P.notIn_str ?_
      refine wpAny_truthy_bool ?_
      rw [show (!(Builtin.Str.occurrences (Str.ofString " \t") ⟨#[cc]⟩ 0 (Str.ofString " \t").length 1).isEmpty) = isW cc from white_in cc]
      have p₁₀ : PcsAt (fun b => L ≤ b ∧ b ≠ R ∧ b ≠ l ∧ b ≠ L ∧ b ≠ I) s₁₀.heap rs init := by rw [e₁₀]; exact p₉
      have kI : ∀ o, s₈.heap.get? I = some o → s₁₀.heap.get? I = some o := fun o e => by rw [e₁₀]; exact k₉ I o (Ne.symm hI3) e
      obtain ⟨kl, a5⟩ := a5
      have hR2 : (221 : Nat) ≤ R := Nat.le_trans big' a8
      cases hwc : isW cc with
      | false =>
        rw [if_pos (by decide)]
        refine wpAny_execs_cons ?_
        refine aug_last (k := 1) (x := ofL nn) c₁₀ n_pieces₉ n_sign a4 a5 a7 hR2 (by decide) rfl ?_ fun s₁₁ oR' t' c₁₁ lo' k₁₁ => ?_
        · rw [ofL_len]
          show nn.length + 1 ≤ 1000
          have := (List.getElem?_eq_some_iff.mp hcT).1
          (exact ol9 hTl hsz hj a9)
        · refine wpAny_execs_nil ?_
          refine wpAny_execs_nil ?_
          refine fin (wh' := wh) (nn' := nn ++ [cc]) (u1 := t1) (u2 := t') ?_ c₁₁ ?_ a5 (p₁₀.keep fun b o hb e => k₁₁ b o hb.2.1 e) a7 a8 hRI (by simp; (exact Nat.lt_succ_self _)) fun o e => k₁₁ I o (Ne.symm hRI) (kI o e)
          · unfold pstep; dsimp only; rw [hwc, if_neg (by decide)]
          · rw [show ofL (nn ++ [cc]) = ofL nn ++ ⟨#[cc]⟩ by rw [ofL_append]; simp [ofL]]
            exact lo'
      | true =>
        rw [if_neg (by decide)]
        have il : s₁₀.heap.IsList l (rs ++ [Value.ref R]).toArray := ⟨_, c₁₀.get (.tail _ (.head _)), by rw [a5], _, by rw [a5]⟩
        refine wpAny_execs_cons ?_
        refine wpAny_If (wpAny_isTrue_Compare1 ?_)
        refine Subscript_ ?_
        refine Subscript_ (c_name c₁₀ n_pieces₉ ?_)
        refine UnaryOp_ ?_
        refine c_intK c₁₀ fun s₁₁ t₁₁ c₁₁ e₁₁ => ?_
        refine PyProof.Rows.neg_int ?_
        have c₁₂ := c₁₁.ext (s' := { s₁₁ with toks := s₁₁.toks + 1 }) (fun _ _ e => e) rfl rfl
        refine last_item (v := .ref R) (its := (rs ++ [Value.ref R]).toArray) ⟨_, c₁₂.get (.tail _ (.head _)), by rw [a5], _, by rw [a5]⟩ (by simp) ?_
        refine c_intK c₁₂ fun s₁₃ t₁₃ c₁₃ e₁₃ => ?_
        refine nth_item (k := 1) (a4.at_ (c₁₃.get (.head _))) (by decide) rfl ?_
        refine c_strK c₁₃ fun s₁₄ t₁₄ c₁₄ e₁₄ => ?_
        refine P.eq_str (wpAny_truthy_bool ?_)
        have p₁₄ : PcsAt (fun b => L ≤ b ∧ b ≠ R ∧ b ≠ l ∧ b ≠ L ∧ b ≠ I) s₁₄.heap rs init := by rw [e₁₄, e₁₃]; show PcsAt _ s₁₁.heap rs init; rw [e₁₁]; exact p₁₀
        have kI₁₄ : ∀ o, s₈.heap.get? I = some o → s₁₄.heap.get? I = some o := fun o e => by rw [e₁₄, e₁₃]; show s₁₁.heap.get? I = _; rw [e₁₁]; exact kI o e
        by_cases hnn : nn = []
        · subst hnn
          rw [if_pos (by rfl)]
          refine wpAny_execs_cons ?_
          refine aug_last (k := 0) (x := ofL wh) c₁₄ n_pieces₉ n_sign a4 a5 a7 hR2 (by decide) rfl ?_ fun s₁₅ oR' t' c₁₅ lo' k₁₅ => ?_
          · rw [ofL_len]
            show wh.length + 1 ≤ 1000
            have := (List.getElem?_eq_some_iff.mp hcT).1
            (exact ol10 hTl hsz hj a9)
          · refine wpAny_execs_nil ?_
            refine wpAny_execs_nil ?_
            refine wpAny_execs_nil ?_
            refine fin (wh' := wh ++ [cc]) (nn' := []) (u1 := t') (u2 := t2) ?_ c₁₅ ?_ a5 (p₁₄.keep fun b o hb e => k₁₅ b o hb.2.1 e) a7 a8 hRI (by simp; (exact Nat.lt_succ_self _)) fun o e => k₁₅ I o (Ne.symm hRI) (kI₁₄ o e)
            · unfold pstep; dsimp only; rw [hwc, if_pos rfl, if_pos rfl]
            · rw [show ofL (wh ++ [cc]) = ofL wh ++ ⟨#[cc]⟩ by rw [ofL_append]; simp [ofL]]
              exact lo'
        · have hbb : ((ofL nn).cps.toList == (Str.ofString "").cps.toList) = false := beq_eq_false_iff_ne.mpr fun e => hnn (by simpa [ofL, show (Str.ofString "").cps.toList = ([] : List Nat) from rfl] using e)
          rw [if_neg (by rw [show ((ofL nn).cps.toList == (Str.ofString "").cps.toList) = false from hbb]; decide)]
          refine wpAny_execs_cons ?_
          refine wpAny_Expr ?_
          refine MethodCall_ ?_
          refine c_name c₁₄ n_pieces₉ ?_
          subst a5
          refine getMethod_list_append (c₁₄.get (.tail _ (.head _))) rfl rfl ?_
          refine callWith_method1 ?_
          refine spliced_more (List_ ?_)
          refine spliced_more (c_name c₁₄ n_sign (spliced_more (c_strK c₁₄ fun s₁₅ t₁₅ c₁₅ e₁₅ => spliced_none ?_)))
          refine c_listK (vs := [.str ⟨#[cc]⟩ uc, .str (Str.ofString "") t₁₅]) c₁₅ (fun s₁₆ R' c₁₆ hR' k₁₆ => ?_) (by show (2 : Nat) ≤ 1000; decide)
          refine spliced_none ?_
          have hRl' : R' ≠ l := fun q => absurd (Heap.lt_size (c₁₅.get (.tail _ (.head _)))) (by rw [← q, ← hR']; exact Nat.lt_irrefl _)
          have hRR' : R' ≠ R := fun q => absurd (Heap.lt_size (c₁₅.get (.head _))) (by rw [← q, ← hR']; exact Nat.lt_irrefl _)
          refine list_app (c₁₆.get (.tail _ (.tail _ (.head _)))) ?_ fun s₁₇ hs₁₇ e₁₇ hg₁₇ ho₁₇ => ?_
          · rw [List.size_toArray, List.length_append, p₁₄.1]
            have := (List.getElem?_eq_some_iff.mp hcT).1
            show init.length + 1 ≤ 100000
            (exact ol11 hTl hsz hj a9)
          have c₁₇ := c₁₆.upd (Upd.tail hRl' (Upd.tail a7 (Upd.head (fun _ h => nomatch h)))) (Nat.le_trans big' (Nat.le_of_lt (Nat.lt_trans lL lRl))) hs₁₇ e₁₇ hg₁₇ ho₁₇
          refine wpAny_execs_nil ?_
          refine wpAny_execs_nil ?_
          refine wpAny_execs_nil ?_
          have lo14 : (L : Nat) < R' := hR' ▸ hL ▸ c₁₅.lt
          have k17 : ∀ b o, b ≠ l → s₁₄.heap.get? b = some o → s₁₇.heap.get? b = some o := fun b o hb e => hs₁₇.extBut b o hb (k₁₆ b o (by rw [e₁₅]; exact e))
          have hRI' : R' ≠ I := by
            have h1 : (I : Nat) < s₁₅.heap.objs.size := by
              rw [e₁₅]
              exact Heap.lt_size (kI₁₄ _ eI)
            exact fun q => absurd h1 (by rw [← q, ← hR']; exact Nat.lt_irrefl _)
          have c₁₈ : Cx w g [] s L m₉ [(R', listObj #[.str ⟨#[cc]⟩ uc, .str (Str.ofString "") t₁₅] 0), (l, listObj ((rs ++ [Value.ref R]).toArray.push (.ref R')) (kl + 1))] s₁₇ := c₁₇.drop fun p hp => by
            cases hp with
            | head => exact .head _
            | tail _ hp => cases hp with
              | head => exact .tail _ (.tail _ (.head _))
              | tail _ hp => cases hp
          refine fin (init' := init ++ [(wh, nn)]) (wh' := [cc]) (nn' := []) (rs' := rs ++ [Value.ref R]) (kl' := kl + 1) (u1 := uc) (u2 := t₁₅) ?_ c₁₈ lo_list (by simp) (PcsAt.snoc (PcsAt.keep (p₁₄.mono (ok' := fun b => L ≤ b ∧ b ≠ R' ∧ b ≠ l ∧ b ≠ L ∧ b ≠ I) fun b hb ho => ?_) fun b o hb e => k17 b o hb.2.2.1 e) ?_ (a4.at_ (k17 R _ a7 (c₁₄.get (.head _))))) hRl' (Nat.le_of_lt lo14) hRI' ?_ fun o e => k17 I o (Ne.symm hlI') (kI₁₄ o e)
          · unfold pstep; dsimp only; rw [hwc, if_pos rfl, if_neg hnn]
          · obtain ⟨o, e⟩ := ho
            exact ⟨hb.1, fun q => absurd (Heap.lt_size e) (by rw [q, ← hR', ← e₁₅]; exact Nat.lt_irrefl _), hb.2.2.1, hb.2.2.2.1, hb.2.2.2.2⟩
          · exact ⟨a8, Ne.symm hRR', a7, (c₁₄.N (R, oR) (.head _)).2.1, hRI⟩
          · have : 1 ≤ nn.length := List.length_pos_iff.mpr hnn
            simp; (exact ol12 this)
    · intro m news s₈ hJ c₈
      refine wpAny_execs_nil ?_
      refine hP' _ _ ?_
      rw [hsz] at hJ
      exact ⟨m, news, I, hJ, c₈⟩
  · intro fl s₇ hmid
    match fl, hmid with
    | .next, hm =>
      obtain ⟨m, news, I, hJ, c₇⟩ := hm
      obtain ⟨init, wh, nn, rs, R, oR, ol, t1, t2, a1, a2, rfl, a4, ⟨kl, rfl⟩, a6, a7, a8, a9⟩ := hJ
      refine wpAny_execs_cons ?_
      refine wpAny_Return_some ?_
      refine c_name c₇ a2 ?_
      rw [List.take_length] at a1
      have hp := pieces_pairs hT
      rw [a1] at hp
      refine h s₇ l _ c₇.ok c₇.st (lo_list.at_ (c₇.get (.tail _ (.head _)))) ?_ ?_
      · exact Nat.le_of_lt (hL ▸ Nat.lt_trans lL lRl)
      · rw [← hp]
        refine (PcsAt.snoc (ok := fun b => s.heap.objs.size ≤ b ∧ b ≠ l) (a6.mono fun b hb _ => ⟨?_, hb.2.2.1⟩) ⟨?_, a7⟩ (a4.at_ (c₇.get (.head _))))
        · rw [hL]; exact hb.1
        · rw [hL]; exact a8
end
end Mine
end

section
open PySem PySem.W PySem.Calls PyProof.Rows
set_option maxRecDepth 100000
set_option maxHeartbeats 8000000
namespace Mine
structure GoodL (P : List (List Nat × List Nat)) : Prop where
  all : ∀ p ∈ P, (∀ c ∈ p.1, isW c = true) ∧ (∀ c ∈ p.2, isW c = false) ∧ p.2 ≠ []
  tail : ∀ p ∈ P.tail, p.1 ≠ []
  last : ∃ p, P.getLast? = some p ∧ p.2.getLast? = some 97
theorem pairs_flat (T : List Nat) : (pairs T).flatMap (fun p => p.1 ++ p.2) = T := by
  induction T with
  | nil => rfl
  | cons c l ih =>
    unfold pairs
    cases hc : isW c with
    | true =>
      rw [if_pos rfl]
      cases hp : pairs l with
      | nil => rw [pairs_nil hp]; rfl
      | cons p r =>
        obtain ⟨w, n⟩ := p
        rw [hp] at ih
        rw [← ih]
        rfl
    | false =>
      rw [if_neg (by decide)]
      cases hp : pairs l with
      | nil => rw [pairs_nil hp]; rfl
      | cons p r =>
        obtain ⟨w, n⟩ := p
        rw [hp] at ih
        rw [← ih]
        cases w with
        | nil => rfl
        | cons x w => rfl
theorem pairs_good : ∀ T0 : List Nat, GoodL (pairs (T0 ++ [97]))
  | [] => by
    refine ⟨fun p hp => ?_, fun p hp => ?_, ⟨([], [97]), rfl, rfl⟩⟩
    · have hp' : p ∈ [(([] : List Nat), [97])] := hp
      rw [List.mem_singleton] at hp'
      subst hp'
      refine ⟨(fun c hc => nomatch hc), fun c hc => ?_, by decide⟩
      have hc' : c ∈ [97] := hc
      rw [List.mem_singleton] at hc'
      subst hc'
      rfl
    · have hp' : p ∈ ([] : List (List Nat × List Nat)) := hp
      cases hp'
  | c :: l => by
    obtain ⟨h1, h2, ⟨z, hz1, hz2⟩⟩ := pairs_good l
    rw [List.cons_append]
    unfold pairs
    cases hp : pairs (l ++ [97]) with
    | nil => rw [hp] at hz1; cases hz1
    | cons p r =>
      obtain ⟨w, n⟩ := p
      rw [hp] at h1 h2 hz1
      obtain ⟨a1, a2, a3⟩ := h1 _ (.head _)
      cases hc : isW c with
      | true =>
        rw [if_pos rfl]
        refine ⟨fun p hp => ?_, h2, ?_⟩
        · cases hp with
          | head =>
            refine ⟨fun d hd => ?_, a2, a3⟩
            cases hd with
            | head => exact hc
            | tail _ hd => exact a1 d hd
          | tail _ hp => exact h1 p (.tail _ hp)
        · cases r with
          | nil => cases hz1; exact ⟨_, rfl, hz2⟩
          | cons p2 r => exact ⟨z, by rw [List.getLast?_cons_cons] at hz1 ⊢; exact hz1, hz2⟩
      | false =>
        rw [if_neg (by decide)]
        cases w with
        | nil =>
          refine ⟨fun p hp => ?_, h2, ?_⟩
          · cases hp with
            | head =>
              refine ⟨(fun d hd => nomatch hd), fun d hd => ?_, List.cons_ne_nil _ _⟩
              cases hd with
              | head => exact hc
              | tail _ hd => exact a2 d hd
            | tail _ hp => exact h1 p (.tail _ hp)
          · cases r with
            | nil =>
              cases hz1
              refine ⟨_, rfl, ?_⟩
              cases n with
              | nil => cases hz2
              | cons x n =>
                show (c :: x :: n).getLast? = some 97
                rw [List.getLast?_cons_cons]; exact hz2
            | cons p2 r => exact ⟨z, by rw [List.getLast?_cons_cons] at hz1 ⊢; exact hz1, hz2⟩
        | cons x w =>
          refine ⟨fun p hp => ?_, fun p hp => ?_, ?_⟩
          · cases hp with
            | head =>
              refine ⟨(fun d hd => nomatch hd), fun d hd => ?_, List.cons_ne_nil _ _⟩
              cases hd with
              | head => exact hc
              | tail _ hd => cases hd
            | tail _ hp => exact h1 p hp
          · cases hp with
            | head => exact List.cons_ne_nil _ _
            | tail _ hp => exact h2 p hp
          · exact ⟨z, by show (([], [c]) :: (x :: w, n) :: r).getLast? = some z; rw [List.getLast?_cons_cons]; exact hz1, hz2⟩
theorem qs_flat (T : List Nat) : flat (qsOf T) = T := by
  unfold qsOf flat
  rw [List.flatMap_map]
  exact pairs_flat T
theorem qs_good (T0 : List Nat) : Good (qsOf (T0 ++ [97])) := by
  obtain ⟨h1, h2, _⟩ := pairs_good T0
  refine ⟨fun q hq => ?_, fun q hq => ?_⟩
  · obtain ⟨p, hp, rfl⟩ := List.mem_map.mp hq
    obtain ⟨a, b, d⟩ := h1 p hp
    exact ⟨a, b, d⟩
  · unfold qsOf at hq
    rw [← List.map_tail] at hq
    obtain ⟨p, hp, rfl⟩ := List.mem_map.mp hq
    exact h2 p hp
theorem qs_last (T0 : List Nat) : ∃ q, (qsOf (T0 ++ [97])).getLast? = some q ∧ (tx q.2).getLast? = some 97 := by
  obtain ⟨_, _, ⟨p, e1, e2⟩⟩ := pairs_good T0
  unfold qsOf
  rw [List.getLast?_map, e1]
  exact ⟨_, rfl, e2⟩
theorem parts_ne {T : List Nat} (hT : ∃ T0, T = T0 ++ [97]) : ∀ q ∈ qsOf T, q.2 ≠ ofL [] := by
  obtain ⟨T0, rfl⟩ := hT
  exact fun q hq e => ((qs_good T0).all q hq).ne ((ofL_nil_iff _).mp e)
noncomputable def linesLen (l : List Str) : Nat := (l.map (·.length)).sum
theorem linesLen_snoc (l : List Str) (x : Str) : linesLen (l ++ [x]) = linesLen l + x.length := by simp [linesLen]
theorem chunkS_extra {W : Int} {sgs : List Nat} {lines lines' : List Str} {ps ps' : List (Str × Str)} {i i' : Int} {q : Str × Str} (h : chunk W sgs (lines, ps, i) q = (lines', ps', i')) :
    linesLen lines' + (flat ps').length ≤ linesLen lines + (flat ps).length + (tx q.1 ++ tx q.2).length + 1 ∧ lines'.length ≤ lines.length + 1 ∧ ps'.length ≤ ps.length + 1 ∧ (i' = i ∨ i' = 0) ∧ ((∀ x ∈ ps ++ [q], x.2 ≠ ofL []) → ∀ x ∈ ps', x.2 ≠ ofL []) ∧ ∃ q', ps'.getLast? = some q' ∧ q'.2 = q.2 := by
  obtain ⟨b1, b2, b3, _, b5⟩ := chunk_bound h
  have e : (flat (ps ++ [q])).length = (flat ps).length + (tx q.1 ++ tx q.2).length := by rw [flat_append, List.length_append, flat_cons]; simp [flat]
  refine ⟨?_, b1, b2, b3, b5, ?_⟩
  · unfold chunk at h
    dsimp only at h
    split at h
    · cases h; (exact om301 e)
    · split at h
      · rename_i k hk
        cases h
        rw [linesLen_snoc, ofL_len]
        have : flat (ps ++ [q]) = flat ((ps ++ [q]).take k) ++ flat ((ps ++ [q]).drop k) := by rw [← flat_append, List.take_append_drop]
        rw [this, List.length_append] at e
        (exact om302 e)
      · split at h
        · cases h
          rw [linesLen_snoc, ofL_len, flat_cons]
          rw [List.length_append]
          split
          · rename_i e1
            have := (ofL_nil_iff _).mp e1
            rw [this]
            simp [flat, tx, ofL]
            (exact om303)
          · simp [flat] <;> omega
        · cases h; (exact om301 e)
  · unfold chunk at h
    dsimp only at h
    split at h
    · cases h; exact ⟨q, by simp, rfl⟩
    · split at h
      · rename_i k hk
        cases h
        obtain ⟨k1, k2⟩ := findAll_some hk
        have hl1 : (ps ++ [q]).length = ps.length + 1 := by simp
        refine ⟨q, ?_, rfl⟩
        rw [List.drop_append_of_le_length (by (exact om304 k2 hl1))]
        simp
      · split at h
        · cases h; exact ⟨_, rfl, rfl⟩
        · cases h; exact ⟨q, by simp, rfl⟩
theorem foldS_extra {W : Int} {sgs : List Nat} : ∀ {qs : List (Str × Str)} {lines lines' : List Str} {ps ps' : List (Str × Str)} {i i' : Int}, qs.foldl (chunk W sgs) (lines, ps, i) = (lines', ps', i') →
    linesLen lines' + (flat ps').length ≤ linesLen lines + (flat ps).length + (flat qs).length + qs.length ∧ lines'.length ≤ lines.length + qs.length ∧ ps'.length ≤ ps.length + qs.length ∧ (i' = i ∨ i' = 0) ∧ ((∀ x ∈ ps ++ qs, x.2 ≠ ofL []) → ∀ x ∈ ps', x.2 ≠ ofL []) ∧ ∀ q, qs.getLast? = some q → ∃ q', ps'.getLast? = some q' ∧ q'.2 = q.2
  | [], lines, lines', ps, ps', i, i', h => by
    cases h
    exact ⟨by (exact Nat.le_refl _), by simp, by simp, .inl rfl, fun h x hx => h x (by simpa using hx), fun q hq => nomatch hq⟩
  | q :: qs, lines, lines', ps, ps', i, i', h => by
    rw [List.foldl_cons] at h
    generalize e : chunk W sgs (lines, ps, i) q = st at h
    obtain ⟨l1, p1, i1⟩ := st
    obtain ⟨a1, a2, a3, a4, a5, a6⟩ := chunkS_extra e
    obtain ⟨b1, b2, b3, b4, b5, b6⟩ := foldS_extra h
    have ef : (flat (q :: qs)).length = (tx q.1 ++ tx q.2).length + (flat qs).length := by rw [flat_cons, List.length_append]
    have el : (q :: qs).length = qs.length + 1 := rfl
    refine ⟨by (exact om305 a1 b1 ef el), by (exact om306 a2 b2 el), by (exact om306 a3 b3 el), ?_, fun hx => ?_, fun z hz => ?_⟩
    · rcases b4 with rfl | rfl
      · exact a4
      · exact .inr rfl
    · have h5 := a5 fun x hx' => hx x (by
        rw [List.mem_append, List.mem_singleton] at hx'
        rcases hx' with hx' | rfl
        · exact List.mem_append_left _ hx'
        · exact List.mem_append_right _ (.head _))
      exact b5 fun x hx' => by
        rcases List.mem_append.mp hx' with hx' | hx'
        · exact h5 x hx'
        · exact hx x (List.mem_append_right _ (.tail _ hx'))
    · cases qs with
      | nil =>
        cases hz
        cases h
        exact a6
      | cons q2 qs =>
        rw [List.getLast?_cons_cons] at hz
        exact b6 z hz
theorem pure_law2 {T sgs : List Nat} {W hd : Nat} (hT : ∃ T0, T = T0 ++ [97]) (hW : 3 ≤ W ∧ W ≤ 8) (hhd : hd ≤ 3) (hlen : T.length ≤ 55) {lines : List Str} {ps : List (Str × Str)} {i : Int} (e : (qsOf T).foldl (chunk (W : Int) sgs) ([], [], (hd : Int)) = (lines, ps, i)) :
    lines ++ [ofL (flat ps)] = (rows2 sgs W (T.length + 2) (decide (0 < hd)) T 0 0 (W - hd)).map ofL ∧ 0 ≤ i ∧ i ≤ 3 ∧ (∀ q, ps.getLast? = some q → q.2 ≠ ofL []) ∧ 0 < i + sizes ps ∧ (i ≠ 0 ∨ Txt.isspace (ofL (flat ps)) = false) ∧ ps.length ≤ 100 ∧ sizes ps ≤ 1000 ∧ lines.length ≤ 100 ∧ JoinOk (ofL [10]) (lines ++ [ofL (flat ps)]) = true := by
  have hne := parts_ne hT
  obtain ⟨T0, rfl⟩ := hT
  have G := qs_good T0
  obtain ⟨ql, hq1, hq2⟩ := qs_last T0
  obtain ⟨b1, b2, b3, b4, b5, b6⟩ := foldS_extra e
  have hqs : (qsOf (T0 ++ [97])).length ≤ (T0 ++ [97]).length := by
    unfold qsOf
    rw [List.length_map]
    exact pairs_length _
  have hfl := qs_flat (T0 ++ [97])
  rw [hfl] at b1
  have b0 : linesLen [] + (flat []).length = 0 := rfl
  have hb5 := b5 (by simpa using hne)
  obtain ⟨q', l1, l2⟩ := b6 ql hq1
  have hm : q' ∈ ps := List.mem_of_getLast? l1
  have h97 : 97 ∈ flat ps := by
    unfold flat
    refine List.mem_flatMap.mpr ⟨q', hm, List.mem_append_right _ ?_⟩
    rw [l2]
    exact List.mem_of_getLast? hq2
  have hpos : 1 ≤ (flat ps).length := List.length_pos_of_mem h97
  have hsz := sizes_flat ps
  have hi : 0 ≤ i ∧ i ≤ 3 := by rcases b4 with rfl | rfl <;> lia
  simp only [List.length_nil] at b2 b3
  refine ⟨?_, hi.1, hi.2, fun q hq => hb5 q (List.mem_of_getLast? hq), by (exact ol132 hpos hsz hi), .inr ?_, by (exact ol133 hlen b3 hqs), by (exact ol134 hlen b1 hqs b0 hsz), by (exact ol133 hlen b2 hqs), ?_⟩
  · rcases Nat.eq_zero_or_pos hd with rfl | h0
    · obtain ⟨lines', ps', r1, r2⟩ := claimS (W := W) (sgs := sgs) (qsOf (T0 ++ [97])) [] [] [] ((T0 ++ [97]).length + 2) (by simpa using G) (by (exact ol135 hqs))
      rw [show ((0 : Nat) : Int) = 0 from rfl, r1] at e
      cases e
      rw [r2, List.nil_append, List.nil_append, List.nil_append, hfl]
      rfl
    · obtain ⟨lines', ps', i', r1, r2⟩ := phaseS (W := W) (sgs := sgs) h0 (show hd ≤ W by (exact ol136 hW hhd h0)) (qsOf (T0 ++ [97])) [] ((T0 ++ [97]).length + 2) (by simpa using G) (by
        intro z
        rw [List.nil_append] at z
        rw [z] at hq1; cases hq1) (.inl rfl) (by (exact ol137 hqs))
      rw [r1] at e
      cases e
      rw [r2, List.nil_append, hfl, decide_eq_true h0]
      rfl
  · unfold Txt.isspace
    rw [Bool.and_eq_false_iff]
    right
    rw [Bool.eq_false_iff]
    intro hall
    have := (Array.all_eq_true'.mp hall) 97 (by simpa [ofL] using h97)
    revert this
    decide
  · refine joinOk_of ?_
    refine Nat.le_trans (show _ ≤ 1000 from ?_) (show (1000 : Nat) ≤ sizeLine by decide)
    show linesLen (lines ++ [ofL (flat ps)]) + _ * 1 ≤ 1000
    rw [linesLen_snoc, ofL_len, List.length_append]
    simp only [List.length_cons, List.length_nil]
    (exact ol138 hlen b1 b2 hqs b0 hsz)
end Mine
end

section
open PySem PySem.W PySem.Calls PyProof.Rows
set_option maxRecDepth 100000
set_option maxHeartbeats 8000000
namespace Mine
noncomputable def pieceT : Nat → List Nat
  | 0 => [97]
  | 1 => [98]
  | 2 => [44]
  | 3 => [59]
  | 4 => [32]
  | 5 => [9]
  | 6 => [97, 98, 99]
  | _ => [44, 32]
noncomputable def pieceOf (n : Int) : List Nat := pieceT (n.fmod 8).toNat
noncomputable def lawNums (ns : List Int) : List Int := ns.take 5 ++ [0, 7, 1, 4, 6, 6, 4, 1, 3, 4, 0, 1, 4]
noncomputable def lawText (ns : List Int) : List Nat := (lawNums ns).flatMap pieceOf ++ [97]
theorem pieceT_len (n : Nat) : (pieceT n).length ≤ 3 := by
  unfold pieceT
  split <;> decide
theorem flatMap_len {l : List Int} : (l.flatMap pieceOf).length ≤ 3 * l.length := by
  induction l with
  | nil => exact Nat.le_refl _
  | cons a l ih =>
    rw [List.flatMap_cons, List.length_append, List.length_cons]
    have := pieceT_len (a.fmod 8).toNat
    show (pieceT (a.fmod 8).toNat).length + _ ≤ _
    (exact ol75 ih this)
theorem lawText_len (ns : List Int) : (lawText ns).length ≤ 55 := by
  unfold lawText
  rw [List.length_append]
  have := flatMap_len (l := lawNums ns)
  have h2 : (lawNums ns).length ≤ 18 := by
    unfold lawNums
    rw [List.length_append, List.length_take]
    simp only [List.length_cons, List.length_nil]
    (exact ol76)
  simp only [List.length_cons, List.length_nil]
  (exact ol77 this h2)
theorem fmod8 (n : Int) : 0 ≤ n.fmod 8 ∧ n.fmod 8 < 8 := ⟨Int.fmod_nonneg_of_pos n (by decide), Int.fmod_lt_of_pos n (by decide)⟩
theorem paired_pieces : ∀ {vs : List Value} {ns : List Int} {ys : List Value}, IntsAre vs ns → Paired (fun v y => ∃ n t u, v = Value.int n t ∧ y = Value.str (ofL (pieceOf n)) u) vs ys →
    ∃ ll : List (Str × Tok), ys = strValues ll ∧ ll.map (·.1) = ns.map fun n => ofL (pieceOf n)
  | _, _, _, .nil, .nil => ⟨[], rfl, rfl⟩
  | _, _, _, .cons n t r, .cons h p => by
    obtain ⟨ll, rfl, e⟩ := paired_pieces r p
    obtain ⟨n', t', u, e1, rfl⟩ := h
    cases e1
    exact ⟨(ofL (pieceOf n), u) :: ll, rfl, by simp [e]⟩
theorem CodesIn.nil {qf : Nat → Str} {h : Heap} : CodesIn qf #[] h := ⟨by trivial, fun pos cv e => by cases e⟩
theorem ints_nth {vs : List Value} {ns : List Int} (h : IntsAre vs ns) : ∀ (j : Nat) v, vs[j]? = some v → ∃ n t, v = .int n t := by
  induction h with
  | nil => intro j v e; simp at e
  | cons n t r ih =>
    intro j v e
    cases j with
    | zero => simp at e; exact ⟨n, t, e.symm⟩
    | succ j => simp at e; exact ih j v e
theorem slice5 {vs : List Value} {ns : List Int} (hi : IntsAre vs ns) : IntsAre (slicePick vs.toArray none (some 5) none).toList (ns.take 5) := by
  by_cases h : 5 ≤ ns.length
  · exact slice_ints_upto hi (y := 5) (by decide) (by (exact om266 h))
  · have hl : vs.length = ns.length := hi.length
    have e : slicePick vs.toArray none (some 5) none = slicePick vs.toArray none (some (ns.length : Int)) none := by
      unfold slicePick sliceBounds
      rw [List.size_toArray, hl]
      have e1 : ¬ ((5 : Int) < 0) := by decide
      have e2 : ¬ ((ns.length : Int) < 0) := by (exact om267 h hl)
      have e3 : min (5 : Int) (ns.length : Int) = (ns.length : Int) := by (exact om268 h hl)
      have e4 : min (ns.length : Int) (ns.length : Int) = (ns.length : Int) := by (exact om269 hl e3)
      have e5 : (1 : Int) > 0 := by decide
      simp only [e1, e2, if_false, e3, e4, Option.getD_none, e5, if_true]
    rw [e, List.take_of_length_le (show ns.length ≤ 5 by (exact om270 h hl))]
    have := slice_ints_upto hi (y := (ns.length : Int)) (by (exact Int.natCast_nonneg _)) (by (exact om271))
    rwa [show ((ns.length : Int)).toNat = ns.length from rfl, List.take_of_length_le (Nat.le_refl _)] at this
section
variable {w : World} {A : Around} {E : Value → Shared → Prop} {s s' : Shared} {g : Heap} {ws : List Addr} {s₀ : Shared} {L : Addr} {m : Str → Option Value} {news : List (Addr × Obj)} {cn : Str} {cs : Scope} {a : Addr} {ccd : Value} {cl : List (Str × Addr)}
theorem starEach_int {env : Env} {i : Int} {k : Nat} {p : Pos} {rest : List Expr} : starEach (.Constant (.int i) k p :: rest) env = (false, eval (.Constant (.int i) k p) env) :: starEach rest env := by rfl
theorem spliced_int {env : Env} {i : Int} {k : Nat} {p : Pos} {rest : List Expr} {pos : Pos} {Q : List Value → Shared → Prop} (c : Cx w g ws s₀ L m news s)
    (h : ∀ s' t, Cx w g ws s₀ L m news s' → s'.heap = s.heap → wpAny (model PG w) A (spliced (backTo pos (starEach rest env))) (fun vs s₂ => Q (.int i t :: vs) s₂) E s') :
    wpAny (model PG w) A (spliced (backTo pos (starEach (.Constant (.int i) k p :: rest) env))) Q E s :=
  spliced_more (c_intK c fun s' t c' e' => h s' t c' e') starEach_int
theorem c_sum {l : Addr} {vs : List Value} {ns : List Int} {Q : Value → Shared → Prop} (c : Cx w g ws s₀ L m news s) (hh : A.handled = none) (hl : s.heap.IsList l vs.toArray) (hi : IntsAre vs ns)
    (h : ∀ s' t', Cx w g ws s₀ L m news s' → (∀ b o, s.heap.get? b = some o → s'.heap.get? b = some o) → Q (.int ns.sum t') s') : wpAny (model PG w) A (call (.builtin "sum") [.ref l]) Q E s := by
  obtain ⟨xs, hx⟩ := hi.allInts.items
  have hl' : s.heap.IsList l (intItems xs) := hx ▸ hl
  refine sum_intListG hh hl' fun h' tk t' hk => ?_
  have e1 : ns = xs.toList.map (·.1) := by
    rw [← nums_intItems, ← hx]
    exact (show numsOf vs.toArray.toList = ns from hi.numsOf).symm
  have e2 : preSum (numAt xs) xs.size = ns.sum := by
    rw [preSum_eq, List.take_of_length_le (by simp), e1]
  rw [e2]
  exact h { s with heap := h', toks := tk } t' (c.ext hk rfl rfl) hk
theorem FmAt.keepK {h h' : Heap} {f fd ls a : Addr} {W : Int} {ws sp : Str} (F : FmAt h f fd ls a W ws sp) (k : ∀ b o, (b = f ∨ b = fd) → h.get? b = some o → h'.get? b = some o) : FmAt h' f fd ls a W ws sp := by
  obtain ⟨l1, l2, o1, p, o2⟩ := F
  exact ⟨l1, l2, k _ _ (.inl rfl) o1, p, k _ _ (.inr rfl) o2⟩
theorem AccAt.keepK {h h' : Heap} {a d : Addr} {its : Array Value} {n : Nat} {i : Int} (F : AccAt h a d its n i) (k : ∀ b o, (b = a ∨ b = d) → h.get? b = some o → h'.get? b = some o) : AccAt h' a d its n i := by
  obtain ⟨l1, l2, o1, p, q, r, o2⟩ := F
  exact ⟨l1, l2, k _ _ (.inl rfl) o1, p, q, r, k _ _ (.inr rfl) o2⟩
theorem LinesAt.keepK {h h' : Heap} {ls : Addr} {lines : List Str} (F : LinesAt h ls lines) (k : ∀ o, h.get? ls = some o → h'.get? ls = some o) : LinesAt h' ls lines := by
  obtain ⟨l1, l, n, o1, e⟩ := F
  exact ⟨l1, l, n, k _ o1, e⟩
theorem Cx.callUp {ws' : List Addr} (c : Cx w g ws s₀ L m news s) (S : St ws' s s') (O : Ok w s') (hw : ∀ a ∈ ws', a ≠ L ∧ g.get? a = none) (hn : ∀ p ∈ news, p.1 ∉ ws') : Cx w g ws s₀ L m news s' :=
  c.callH S O hw (fun p hp => ⟨S.keep _ _ (hn p hp) (c.hi p hp).not_tab (c.N p hp).1, (c.N p hp).2⟩) c.hi
theorem list_item {value slice : Expr} {l : Addr} {its : Array Value} {n : Nat} {k : Int} {u : Tok} {v : Value} {Q : Value → Shared → Prop} (hl : s.heap.get? l = some (listObj its n)) (h0 : 0 ≤ k) (h63 : k < 2 ^ 63) (hv : its[k.toNat]? = some v) (h : Q v s)
    (hs : subscripted slice false (.ref l) (.int k u) = operate [.ref l, .int k u] (getItem (.ref l) (.int k u)) := by with_unfolding_all rfl) : wpAny (model PG w) A (subscriptTail value slice (.ref l) (.int k u)) Q E s := by
  have ht : s.heap.IsList l its := ⟨_, hl, rfl, _, rfl⟩
  exact tail_builtin ht.typeIs slot_list_getitem.lookup (wpAny_getItem_list ht h0 h63 hv h) hs
theorem l_to {value slice : Expr} {l : Addr} {items : Array Value} {k : Int} {uj : Tok} {Q : Value → Shared → Prop} (hl : s.heap.IsList l items) (hsz : items.size ≤ 1000)
    (h : ∀ h', (∀ b o, s.heap.get? b = some o → h'.get? b = some o) → h'.get? (s.heap.objs.size + 1) = some (listObj (slicePick items none (some k) none) 0) → Q (.ref (s.heap.objs.size + 1)) { s with heap := h' })
    (hs : subscripted slice false (.ref l) (.ref s.heap.objs.size) = operate [.ref s.heap.objs.size, .ref l] (getItem (.ref l) (.ref s.heap.objs.size)) := by with_unfolding_all rfl)
    (ht : ∀ r, letTemporaryGo value (.ref l) r = pure () := by intro _; with_unfolding_all rfl) :
    wpAny (model PG w) A (subscriptTail value slice (.ref l) (.ref s.heap.objs.size)) Q E { s with heap := s.heap.push { cls := .type "slice", data := .fields #[.none, .int k uj, .none] } } := by
  refine subscriptTail_ops (Heap.IsList.typeIs (s := { s with heap := s.heap.push { cls := .type "slice", data := .fields #[.none, .int k uj, .none] } }) (hl.push _)) list_getitem_lookup
    (wpAny_getItem_list_slice (hl.push _) (Heap.IsSliceOf.new ..) .none (.int k uj) .none (by simp) ?_ (Nat.le_trans hsz (by decide))) hs ht
  show Q (.ref (s.heap.push _).objs.size) _
  rw [Heap.size_push]
  refine h _ (fun b o e => Heap.get?_push_of_some _ (Heap.get?_push_of_some _ e)) ?_
  heap_get
end
end Mine
end

section
open PySem PySem.W PySem.Calls PyProof.Rows
set_option maxRecDepth 100000
set_option maxHeartbeats 8000000
namespace Mine
theorem PairsAt.keepT {h h' : Heap} {its : Array Value} {ps : List (Str × Str)} (P : PairsAt h its ps) (k : ∀ T vs, (221 : Nat) ≤ T → h.get? T = some (tupObj vs) → h'.get? T = some (tupObj vs)) : PairsAt h' its ps := by
  refine ⟨P.size, fun j q hq => ?_⟩
  obtain ⟨v, hv, T, t1, t2, rfl, hT, e⟩ := P.at_ j q hq
  exact ⟨_, hv, T, t1, t2, rfl, hT, k T _ hT e⟩
section
variable {w : World} {A : Around} {g : Heap} {ws : List Addr} {s₀ s : Shared} {L I l : Addr} {m : Str → Option Value} {news : List (Addr × Obj)} {cn : Str} {cs : Scope} {a : Addr} {ccd : Value} {cl : List (Str × Addr)}
theorem r_forL {R : Result → Shared → Prop} {x1 x2 : Str} {p1 p2 pt : Pos} {kt : Nat} {body orelse : List Stmt} {items : Array Value} (hh : A.handled = none) (href : ∀ (j : Nat) v, items[j]? = some v → ∃ T, v = Value.ref T) (hne : l ≠ I)
    (hI : (221 : Nat) ≤ I) (hgI : g.get? I = none) (hLI : L ≠ I) (hLl : L ≠ l) (J : Nat → (Str → Option Value) → List (Addr × Obj) → Heap → Prop)
    (hJ : ∀ j m news h h' i, J j m news h → h.IsListIter I l i → (∀ b o, b ≠ I → h.get? b = some o → h'.get? b = some o) → J j m news h')
    (turn : ∀ j v m news s, j < items.size → J j m news s.heap → Cx w g ws s₀ L m news s → (∀ p ∈ news, p.1 ≠ I) → items[j]? = some v → s.heap.IsListIter I l (j + 1) → s.heap.IsList l items → wpAny (model PG w) A (assign (.Tuple [.Name x1 p1, .Name x2 p2] kt pt) (envX cn cs L a ccd cl) v) (fun _ s₂ => wpAny (model PG w) A (execs body (envX cn cs L a ccd cl)) (fun f s₃ => match f with
        | .next | .cont => ∃ m' news', J (j + 1) m' news' s₃.heap ∧ Cx w g ws s₀ L m' news' s₃ ∧ (∀ p ∈ news', p.1 ≠ I) ∧ (∀ b, (b = I ∨ b = l) → ∀ o, s.heap.get? b = some o → s₃.heap.get? b = some o)
        | .brk => R (.ok .next) s₃
        | .ret v => R (.ok (.ret v)) s₃) (notedBy (model PG w) A (envX cn cs L a ccd cl) fun e s' => R (.error e) s') s₂) (notedBy (model PG w) A (envX cn cs L a ccd cl) fun e s' => R (.error e) s') s)
    (done : ∀ m news s, J items.size m news s.heap → Cx w g ws s₀ L m news s → wpAny (model PG w) A (execs orelse (envX cn cs L a ccd cl)) (fun f s₃ => R (.ok f) s₃) (notedBy (model PG w) A (envX cn cs L a ccd cl) fun e s' => R (.error e) s') s)
    (c : Cx w g ws s₀ L m news s) (h0 : J 0 m news s.heap) (hnI : ∀ p ∈ news, p.1 ≠ I) (hS : s.heap.IsListIter I l 0 ∧ s.heap.IsList l items) :
    codeAny (model PG w) A (.forLoop (.Tuple [.Name x1 p1, .Name x2 p2] kt pt) (.ref I) body orelse (envX cn cs L a ccd cl)) R s := by
  have W := Walks.list (prog := PG) (w := w) hh I l hne items
  refine codeAny_forLoop_any (I := fun k s => ∃ j m news, k = items.size - j ∧ j ≤ items.size ∧ J j m news s.heap ∧ Cx w g ws s₀ L m news s ∧ (∀ p ∈ news, p.1 ≠ I) ∧ s.heap.IsListIter I l j ∧ s.heap.IsList l items) (fun k s hk => ?_) items.size ⟨0, m, news, rfl, Nat.zero_le _, h0, c, hnI, hS⟩
  obtain ⟨j, m, news, rfl, hj, hJJ, c, hnI, hS⟩ := hk
  rcases Nat.lt_or_ge j items.size with hlt | hge
  · refine W.item j s _ _ hlt hS fun v h' tk hP hS' k => ?_
    have k' : ∀ b o, b ≠ I → s.heap.get? b = some o → h'.get? b = some o := fun b o hb e => k b o (by simpa using hb) e
    have c' := c.turn (tk := tk) hI hgI hLI hnI k'
    obtain ⟨T, rfl⟩ := href j v hP
    show wpAny _ _ (letOwnedTupleGo _ (.ref I) (.ref T)) _ _ _
    refine wpAny_letOwnedTupleGo_listiter (s := { s with heap := h', toks := tk }) hS'.1 ?_
    refine wpAny_mono (turn j (.ref T) m news _ hlt (hJ _ _ _ _ h' _ hJJ hS.1 k') c' hnI hP hS'.1 hS'.2) (fun _ s₂ h₂ => wpAny_mono h₂ (fun f s₃ h₃ => ?_) fun _ _ e => e) fun _ _ e => e
    have fin : (∃ m' news', J (j + 1) m' news' s₃.heap ∧ Cx w g ws s₀ L m' news' s₃ ∧ (∀ p ∈ news', p.1 ≠ I) ∧ (∀ b, (b = I ∨ b = l) → ∀ o, h'.get? b = some o → s₃.heap.get? b = some o)) → ∃ mm, mm < items.size - j ∧ ∃ j m news, mm = items.size - j ∧ j ≤ items.size ∧ J j m news s₃.heap ∧ Cx w g ws s₀ L m news s₃ ∧ (∀ p ∈ news, p.1 ≠ I) ∧ s₃.heap.IsListIter I l j ∧ s₃.heap.IsList l items := by
      rintro ⟨m', news', a1, a2, a3, a4⟩
      exact ⟨items.size - (j + 1), by (exact ol6 hlt), j + 1, m', news', rfl, hlt, a1, a2, a3, hS'.1.at fun o e => a4 I (.inl rfl) o e, hS'.2.at fun o e => a4 l (.inr rfl) o e⟩
    cases f with
    | next => exact fin h₃
    | cont => exact fin h₃
    | brk => exact h₃
    | ret v => exact h₃
  · have : j = items.size := Nat.le_antisymm hj hge
    subst this
    refine W.done s _ _ hS fun h' tk k => ?_
    have k' : ∀ b o, b ≠ I → s.heap.get? b = some o → h'.get? b = some o := fun b o hb e => k b o (by simpa using hb) e
    exact done m news _ (hJ _ _ _ _ h' _ hJJ hS.1 k') (c.turn (tk := tk) hI hgI hLI hnI k')
end
end Mine
end

section
open PySem PySem.W PySem.Calls PyProof.Rows
set_option maxRecDepth 100000
set_option maxHeartbeats 8000000
namespace Mine
noncomputable abbrev nText : Str := "text"
noncomputable abbrev nWidth : Str := "width"
noncomputable abbrev nNumbers : Str := "numbers"
noncomputable abbrev nScript : Str := "script"
noncomputable abbrev nN : Str := "n"
noncomputable abbrev nSign : Str := "splitting"
noncomputable abbrev nWhite : Str := "white"
noncomputable abbrev nPart : Str := "part"
noncomputable abbrev nHead : Str := "head"
noncomputable abbrev nFormatter : Str := "formatter"
noncomputable abbrev nTold : Str := "told"
section
variable {w : World} {A : Around} {E : Value → Shared → Prop} {s : Shared} {Q : Value → Shared → Prop}
theorem pcs_at {a b c d e f g i : Tok} (k : Nat) (hk : k < 8) : ∃ u, (#[Value.str (ofL [97]) a, .str (ofL [98]) b, .str (ofL [44]) c, .str (ofL [59]) d, .str (ofL [32]) e, .str (ofL [9]) f, .str (ofL [97, 98, 99]) g, .str (ofL [44, 32]) i] : Array Value)[k]? = some (.str (ofL (pieceT k)) u) := by
  rcases k with _ | _ | _ | _ | _ | _ | _ | _ | k
  · exact ⟨a, rfl⟩
  · exact ⟨b, rfl⟩
  · exact ⟨c, rfl⟩
  · exact ⟨d, rfl⟩
  · exact ⟨e, rfl⟩
  · exact ⟨f, rfl⟩
  · exact ⟨g, rfl⟩
  · exact ⟨i, rfl⟩
  · (exact (om272 hk).elim)
theorem law_ok {sl : Addr} {vs : List Value} {ns : List Int} (O : Ok w s) (r : Rm A 16) (hT : s.heap.get? 198 = some (tabObj #[])) (hT2 : s.heap.get? 205 = some (tabObj #[])) (hl : s.heap.IsList sl vs.toArray) (hi : IntsAre vs ns) (hn : ns.length ≤ 63)
    (h : ∀ s', Ok w s' → St [198, 205] s s' → (∃ ps, s'.heap.get? 198 = some (tabObj ps)) → (∃ ps, s'.heap.get? 205 = some (tabObj ps)) → Q (.bool true) s') :
    wpAny (model PG w) A (call (.ref 220) [.ref sl]) Q E s := by
  refine c_enterCells (binds := [("script", .ref sl)]) (fun L => [("signs", L + 1)]) [(198, tabObj #[]), (205, tabObj #[])] O r.room (ownTT hT hT2) (fun g L s₁ cells c Y k₁ => ?_) (hclf := fun _ => rfl) (hkind := fun n x hx => ?_) (hab := fun n q hq => ?_)
  · obtain ⟨o1, rfl, d1⟩ := Y.one
    have big : (221 : Nat) ≤ s.heap.objs.size := (base_of (own := []) O.gd no_own).2
    obtain rfl : s.heap.objs.size = L := c.hL
    have hlt : ((s.heap.objs.size + 1 : Nat) : Nat) < s₁.heap.objs.size := Heap.lt_size (c.get (.head _))
    generalize hLL : s.heap.objs.size = L at *
    have not2 : ∀ {b : Addr}, (221 : Nat) ≤ b → b ∉ List.map (fun x => x.1) [((198 : Addr), tabObj #[]), ((205 : Addr), tabObj #[])] := fun hb q => by
      simp only [List.map_cons, List.map_nil, List.mem_cons, List.not_mem_nil, or_false] at q
      rcases q with rfl | rfl
      · exact absurd hb (by decide)
      · exact absurd hb (by decide)
    have gsl : g.IsList sl vs.toArray := by
      obtain ⟨o, e, hc, hd⟩ := hl
      have nt : ∀ (P : Addr) (ps : Array Value), s.heap.get? P = some (tabObj ps) → sl ≠ P := fun P ps eP q => by
        rw [q, eP] at e; cases e; cases hc
      refine ⟨o, c.B.all sl o (fun q => ?_) (fun q => ?_) e, hc, hd⟩
      · simp only [List.map_cons, List.map_nil, List.mem_cons, List.not_mem_nil, or_false] at q
        rcases q with q | q
        · exact nt _ _ hT q
        · exact nt _ _ hT2 q
      · obtain ⟨ps, eP, _⟩ := O.tabs sl q
        exact nt _ _ eP rfl
    refine wpAny_execs_cons ?_
    refine wpAny_Assign_Name ?_
    refine List_ ?_
    refine spliced_more (c_strK c fun s₂ u1 c₂ e₂ => ?_)
    refine spliced_more (c_strK c₂ fun s₃ u2 c₃ e₃ => ?_)
    refine spliced_more (c_strK c₃ fun s₄ u3 c₄ e₄ => ?_)
    refine spliced_more (c_strK c₄ fun s₅ u4 c₅ e₅ => ?_)
    refine spliced_more (c_strK c₅ fun s₆ u5 c₆ e₆ => ?_)
    refine spliced_more (c_strK c₆ fun s₇ u6 c₇ e₇ => ?_)
    refine spliced_more (c_strK c₇ fun s₈ u7 c₈ e₈ => ?_)
    refine spliced_more (c_strK c₈ fun s₉ u8 c₉ e₉ => ?_)
    refine spliced_none ?_
    refine c_listK (vs := [.str (ofL [97]) u1, .str (ofL [98]) u2, .str (ofL [44]) u3, .str (ofL [59]) u4, .str (ofL [32]) u5, .str (ofL [9]) u6, .str (ofL [97, 98, 99]) u7, .str (ofL [44, 32]) u8]) c₉ (fun s₁₀ pl c₁₀ hpl k₁₀ => ?_) (by show (8 : Nat) ≤ 1000; decide)
    have lL : (L : Nat) < s₉.heap.objs.size := hLL ▸ c₉.lt
    have hcpl : ((L + 1 : Nat) : Nat) < pl := by
      have := Heap.lt_size (c₉.get (.head _))
      exact hpl ▸ this
    have pl238 : (221 : Nat) ≤ pl := by have : (221 : Nat) ≤ L := big; exact Nat.le_trans this (by exact Nat.le_of_lt (Nat.lt_trans (Nat.lt_succ_self _) hcpl))
    have hne : ∀ p ∈ [((198 : Addr), tabObj #[]), ((205 : Addr), tabObj #[])], p.1 ≠ L + 1 := fun p hp => by
      have : (221 : Nat) ≤ L := big
      cases hp with
      | head => intro e; have : (198 : Nat) = L + 1 := e; (exact om273 big this)
      | tail _ hp =>
        cases hp with
        | head => intro e; have : (205 : Nat) = L + 1 := e; (exact om274 big this)
        | tail _ hp => cases hp
    refine c_storeC (cc := L + 1) (v₀ := none) (o := o1) (g' := fun o' => (pl, _) :: (L + 1, o') :: [(198, tabObj #[]), (205, tabObj #[])]) c₁₀ rfl (fun o' => Upd.tail (Nat.ne_of_gt hcpl) (Upd.head hne)) (Nat.le_succ_of_le big) d1 fun s₁₁ o2 d2 c₁₁' k₁₁ => ?_
    obtain ⟨m₁₁, hm₁₁, c₁₁⟩ := c₁₁'.named
    have a_script : m₁₁ nScript = some (.ref sl) := by rw [hm₁₁]; rfl
    clear hm₁₁ c₁₁'
    refine wpAny_execs_cons ?_
    refine wpAny_Assign_Name ?_
    refine wpAny_BinOp ?_
    refine Subscript_ ?_
    refine c_name c₁₁ a_script ?_
    refine wpAny_Slice (wpAny_evalPart_none (wpAny_evalPart_some (c_intK c₁₁ fun s₁₂ t₁₂ c₁₂ e₁₂ => wpAny_evalPart_none ?_)))
    refine l_to (items := vs.toArray) (by rw [e₁₂]; obtain ⟨o, e, q⟩ := gsl; exact ⟨o, c₁₁.base e, q⟩) (by simp [hi.length]; (exact om275 hn)) fun h₁₃ k₁₃ e₁₃ => ?_
    have c₁₃ := c₁₂.ext (s' := { s₁₂ with heap := h₁₃ }) k₁₃ rfl rfl
    generalize hsc : s₁₂.heap.objs.size + 1 = sc at e₁₃
    refine List_ ?_
    with_reducible refine spliced_int c₁₃ fun z0 v0 q0 f0 => ?_
    with_reducible refine spliced_int q0 fun z1 v1 q1 f1 => ?_
    with_reducible refine spliced_int q1 fun z2 v2 q2 f2 => ?_
    with_reducible refine spliced_int q2 fun z3 v3 q3 f3 => ?_
    with_reducible refine spliced_int q3 fun z4 v4 q4 f4 => ?_
    with_reducible refine spliced_int q4 fun z5 v5 q5 f5 => ?_
    with_reducible refine spliced_int q5 fun z6 v6 q6 f6 => ?_
    with_reducible refine spliced_int q6 fun z7 v7 q7 f7 => ?_
    with_reducible refine spliced_int q7 fun z8 v8 q8 f8 => ?_
    with_reducible refine spliced_int q8 fun z9 v9 q9 f9 => ?_
    with_reducible refine spliced_int q9 fun z10 v10 q10 f10 => ?_
    with_reducible refine spliced_int q10 fun z11 v11 q11 f11 => ?_
    with_reducible refine spliced_int q11 fun z12 v12 q12 f12 => ?_
    refine spliced_none ?_
    refine c_listK (vs := [.int 0 v0, .int 7 v1, .int 1 v2, .int 4 v3, .int 6 v4, .int 6 v5, .int 4 v6, .int 1 v7, .int 3 v8, .int 4 v9, .int 0 v10, .int 1 v11, .int 4 v12]) q12 (fun s₁₄ tl c₁₄ htl k₁₄ => ?_) (by show (13 : Nat) ≤ 1000; decide)
    have e₁₄ : s₁₄.heap.get? sc = some (listObj (slicePick vs.toArray none (some 5) none) 0) := k₁₄ _ _ (by rw [f12, f11, f10, f9, f8, f7, f6, f5, f4, f3, f2, f1, f0]; exact e₁₃)
    refine P.add_list e₁₄ (c₁₄.get (.head _)) ?_ (Nat.le_trans (show _ ≤ 1000 from ?_) (by decide))
    · have I₅ := slice5 hi
      have IN : IntsAre ((slicePick vs.toArray none (some 5) none) ++ [Value.int 0 v0, Value.int 7 v1, Value.int 1 v2, Value.int 4 v3, Value.int 6 v4, Value.int 6 v5, Value.int 4 v6, Value.int 1 v7, Value.int 3 v8, Value.int 4 v9, Value.int 0 v10, Value.int 1 v11, Value.int 4 v12].toArray).toList (lawNums ns) := by
        rw [Array.toList_append]
        exact IntsAre.append I₅ (.cons _ _ (.cons _ _ (.cons _ _ (.cons _ _ (.cons _ _ (.cons _ _ (.cons _ _ (.cons _ _ (.cons _ _ (.cons _ _ (.cons _ _ (.cons _ _ (.cons _ _ .nil)))))))))))))
      generalize hits : (slicePick vs.toArray none (some 5) none) ++ [Value.int 0 v0, Value.int 7 v1, Value.int 1 v2, Value.int 4 v3, Value.int 6 v4, Value.int 6 v5, Value.int 4 v6, Value.int 1 v7, Value.int 3 v8, Value.int 4 v9, Value.int 0 v10, Value.int 1 v11, Value.int 4 v12].toArray = its at IN ⊢
      have c₁₅ := Cx.new (a := s₁₄.heap.objs.size) (o := listObj its 0) (c₁₄.ext (s' := { s₁₄ with heap := s₁₄.heap.push (listObj its 0) }) (fun _ _ e => Heap.get?_push_of_some _ e) rfl rfl) (Heap.get?_push_size _ rfl) c₁₄.lt
      refine c_storeK c₁₅ fun s₁₆ c₁₆' k₁₆ => ?_
      obtain ⟨m₁₆, hm₁₆, c₁₆⟩ := c₁₆'.named
      have b_script : m₁₆ nScript = some (.ref sl) := by rw [hm₁₆]; exact (if_neg (by decide)).trans a_script
      have b_numbers : m₁₆ nNumbers = some (.ref s₁₄.heap.objs.size) := by rw [hm₁₆]; exact if_pos rfl
      clear hm₁₆ c₁₆'
      generalize s₁₄.heap.objs.size = nl at *
      refine wpAny_execs_cons ?_
      refine wpAny_Assign_Name ?_
      refine wpAny_BinOp ?_
      refine MethodCall_ ?_
      refine c_strK c₁₆ fun s₁₇ t₁₇ c₁₇ e₁₇ => ?_
      refine GM.join ?_
      refine callWith_method1 ?_
      refine spliced_more ?_
      refine wpAny_ListComp_free (fun _ => true) (fun v y => ∃ n t u, v = Value.int n t ∧ y = Value.str (ofL (pieceOf n)) u) (cl := [("signs", L + 1)]) ?_ ?_ ?_ ?_ ?_ ?_ ?_
      · rfl
      · decide
      · rfl
      · decide
      · rfl
      · refine c_name c₁₇ b_numbers ?_
        refine wpAny_pyIter_list ⟨_, c₁₇.get (.head _), rfl, _, rfl⟩ ?_
        have c₁₈ := c₁₇.ext (s' := { s₁₇ with heap := s₁₇.heap.push { cls := .type "list_iterator", data := .fields #[.ref nl, .int 0 0] } }) (fun _ _ e => Heap.get?_push_of_some _ e) rfl rfl
        have hIt : Heap.IsListIter (s₁₇.heap.push { cls := .type "list_iterator", data := .fields #[.ref nl, .int 0 0] }) s₁₇.heap.objs.size nl 0 := ⟨_, Heap.get?_push_size _ rfl, rfl, rfl⟩
        have hnlt : nl < s₁₇.heap.objs.size := Heap.lt_size (c₁₇.get (.head _))
        have hIL : (L : Nat) < s₁₇.heap.objs.size := hLL ▸ c₁₇.lt
        have hz : s₁₇.heap.objs.size < (s₁₇.heap.push { cls := .type "list_iterator", data := .fields #[.ref nl, .int 0 0] }).objs.size := by rw [Heap.size_push]; exact Nat.lt_succ_self _
        have gI : g.get? s₁₇.heap.objs.size = none := by
          cases e : g.get? s₁₇.heap.objs.size with
          | none => rfl
          | some o => exact absurd (Heap.lt_size (c₁₇.base e)) (Nat.lt_irrefl _)
        have nI : ∀ p ∈ [(nl, listObj its 0)], p.1 ≠ s₁₇.heap.objs.size := fun p hp => by cases hp with | head => exact Nat.ne_of_lt hnlt | tail _ h => cases h
        have allI : ∀ b o, s₁₇.heap.get? b = some o → b ≠ s₁₇.heap.objs.size := fun b o e => Nat.ne_of_lt (Heap.lt_size e)
        generalize hI : s₁₇.heap.objs.size = I at *
        refine ⟨I, [I, nl], [I], its.size, (fun i v => its[i]? = some v), (fun i h => h.IsListIter I nl i ∧ h.IsList nl its), rfl, Walks.list r.deep.hd I nl (Nat.ne_of_lt hnlt) its, ?_, ⟨hIt, _, c₁₈.get (.head _), rfl, _, rfl⟩, ?_, ⟨?_, ?_⟩, ?_⟩
        · have hsz := IN.length
          have h1 : (lawNums ns).length ≤ 18 := by
            unfold lawNums
            rw [List.length_append, List.length_take]
            simp only [List.length_cons, List.length_nil]
            (exact om276 hn)
          refine Nat.le_trans (show its.size ≤ 1000 from ?_) (by decide)
          rw [← Array.length_toList]
          (exact om277 hsz h1)
        · intro b hb
          cases hb with
          | head => exact hz
          | tail _ hb => cases hb with
            | head => exact Nat.lt_trans hnlt hz
            | tail _ hb => cases hb
        · intro C i v s₃ m₃ E' hC hP hn hx hk htk
          exact wpAny_pure ⟨rfl, ⟨_, _, rfl, fun _ _ e => e⟩⟩
        · intro C i v s₃ m₃ E' hC hP hpv hn hx hk htk
          obtain ⟨n, t, rfl⟩ := ints_nth IN i v (by rw [Array.getElem?_toList]; exact hP)
          refine Subscript_ ?_
          refine wpAny_Name (wpAny_loadName_cell (c := L + 1) rfl rfl rfl ⟨o2, hk _ _ ?_ (c₁₈.get (.tail _ (.tail _ (.tail _ (.head _))))), d2⟩ ?_) (by decide)
          · exact fun q => allI _ _ (c₁₇.get (.tail _ (.tail _ (.tail _ (.head _))))) (List.mem_singleton.mp q)
          · refine wpAny_BinOp ?_
            refine wpAny_Name (wpAny_loadName_local rfl rfl hn hx ?_) (by decide)
            refine wpAny_Constant_int ?_
            refine PyProof.Rows.mod_int (by decide) ?_
            obtain ⟨u, hu⟩ := pcs_at (a := u1) (b := u2) (c := u3) (d := u4) (e := u5) (f := u6) (g := u7) (i := u8) (n.fmod 8).toNat (by have := fmod8 n; (exact om278 this))
            refine list_item (n := 0) (its := #[Value.str (ofL [97]) u1, .str (ofL [98]) u2, .str (ofL [44]) u3, .str (ofL [59]) u4, .str (ofL [32]) u5, .str (ofL [9]) u6, .str (ofL [97, 98, 99]) u7, .str (ofL [44, 32]) u8]) ?_ (fmod8 n).1 (by have := (fmod8 n).2; lia) hu ?_
            · exact hk _ _ (fun q => allI _ _ (c₁₇.get (.tail _ (.tail _ (.head _)))) (List.mem_singleton.mp q)) (c₁₈.get (.tail _ (.tail _ (.head _))))
            · exact ⟨⟨_, _, _, rfl, rfl⟩, ⟨_, _, rfl, fun _ _ e => e⟩⟩
        · intro D h' tk ys vs' hD hL' hPl hlen hP' hF hk
          have evs : vs' = its.toList := by
            refine List.ext_getElem? fun j => ?_
            cases e : vs'[j]? with
            | some v => exact ((Array.getElem?_toList ..).trans (hP' j v e)).symm
            | none =>
              have h1 := List.getElem?_eq_none_iff.mp e
              exact (List.getElem?_eq_none_iff.mpr (by rw [Array.length_toList]; (exact om280 hlen h1))).symm
          subst evs
          rw [List.filter_eq_self.mpr (fun _ _ => rfl)] at hF
          obtain ⟨ll, hys, hll⟩ := paired_pieces IN hF
          obtain ⟨nD, hD'⟩ := hPl
          have c₁₉ := Cx.turnW (wr := [I]) (h' := h') (tk := tk) c₁₈ (fun b hb => by
            rw [List.mem_singleton] at hb; subst hb
            exact ⟨Nat.le_trans (Nat.le_trans big (Nat.le_refl _)) (Nat.le_of_lt hIL), gI, Nat.ne_of_lt hIL⟩) (fun p hp q => allI p.1 p.2 (c₁₇.get hp) (List.mem_singleton.mp q)) hk
          have eys : ys = (strValues ll).toArray := by apply Array.ext'; rw [hys]
          subst eys
          refine spliced_none ?_
          refine SC.join (l := ll) ⟨_, hD', rfl, _, rfl⟩ rfl ?_ fun t₂₀ k₂₀ => ?_
          · refine joinOk_of ?_
            rw [hll]
            have h0 : ((lawNums ns).map fun n => ofL (pieceOf n)).length ≤ 18 := by
              rw [List.length_map]
              unfold lawNums
              rw [List.length_append, List.length_take]
              simp only [List.length_cons, List.length_nil]
              (exact om276 hn)
            have h1 : ∀ l : List Int, ((l.map fun n => ofL (pieceOf n)).map (·.length)).sum ≤ 3 * l.length := fun l => by
              induction l with
              | nil => exact Nat.le_refl _
              | cons a l ih =>
                simp only [List.map_cons, List.sum_cons, List.length_cons]
                have := pieceT_len (a.fmod 8).toNat
                have e : (ofL (pieceOf a)).length = (pieceT (a.fmod 8).toNat).length := ofL_len _
                (exact ol57 ih this e)
            have h2 := h1 (lawNums ns)
            rw [List.length_map] at h0
            rw [List.length_map]
            refine Nat.le_trans (show _ ≤ 1000 from ?_) (show (1000 : Nat) ≤ sizeLine by decide)
            show _ + _ * 0 ≤ 1000
            (exact ol58 h0 h2)
          have c₂₀ := c₁₉.ext (s' := { s₁₇ with heap := h', toks := k₂₀ }) (fun _ _ e => e) rfl rfl
          refine c_strK c₂₀ fun s₂₁ t₂₁ c₂₁ e₂₁ => ?_
          have ex : (Txt.join (Str.ofString "") (ll.map (·.1)) ++ (Str.ofString "a")) = ofL (lawText ns) := by
            refine (congrArg (· ++ _) (join_empty _)).trans ?_
            rw [hll, ofL_append]; unfold lawText; simp [ofL, List.flatMap_map]; rfl
          have hTlen := lawText_len ns
          refine PyProof.Rows.add_str (fun t₂₂ k₂₂ => ?_) ?_
          · rw [ex]
            have c₂₂ := (c₂₁.drop (news' := [(198, tabObj #[]), (205, tabObj #[])]) fun p hp => .tail _ (.tail _ (.tail _ (.tail _ hp)))).ext (s' := { s₂₁ with toks := k₂₂ }) (fun _ _ e => e) rfl rfl
            refine c_storeK c₂₂ fun s₂₃ c₂₃' k₂₃ => ?_
            obtain ⟨m₂₃, hm₂₃, c₂₃⟩ := c₂₃'.named
            have d_script : m₂₃ nScript = some (.ref sl) := by rw [hm₂₃]; exact (if_neg (by decide)).trans b_script
            have d_text : m₂₃ nText = some (.str (ofL (lawText ns)) t₂₂) := by rw [hm₂₃]; exact if_pos rfl
            clear hm₂₃ c₂₃'
            generalize hTT : lawText ns = TT at d_text hTlen
            have hTe : ∃ T0, TT = T0 ++ [97] := ⟨_, hTT.symm⟩
            have gsl23 : s₂₃.heap.IsList sl vs.toArray := by
              obtain ⟨o, e, q⟩ := gsl
              exact ⟨o, c₂₃.base e, q⟩
            refine wpAny_execs_cons ?_
            refine wpAny_Assign_Name ?_
            refine wpAny_BinOp ?_
            refine Call_ ?_
            refine c_built c₂₃ (v := .builtin "sum") ?_ ?_ ?_ ?_
            · kernel_rfl
            · kernel_rfl
            · decide
            refine PyProof.Rows.callWith_builtin1 (spliced_more (c_name c₂₃ d_script (spliced_none ?_)))
            refine c_sum c₂₃ r.deep.hd gsl23 hi fun s₂₄ t₂₄ c₂₄ k₂₄ => ?_
            refine c_intK c₂₄ fun s₂₅ t₂₅ c₂₅ e₂₅ => ?_
            refine PyProof.Rows.add_int ?_
            have c₂₆ := c₂₅.ext (s' := { s₂₅ with toks := s₂₅.toks + 1 }) (fun _ _ e => e) rfl rfl
            generalize hnn : ns.sum + 18 = nn
            refine c_storeK c₂₆ fun s₂₇ c₂₇' k₂₇ => ?_
            obtain ⟨m₂₇, hm₂₇, c₂₇⟩ := c₂₇'.named
            have f_n : m₂₇ nN = some (.int nn s₂₅.toks) := by rw [hm₂₇]; exact if_pos rfl
            have f_text : m₂₇ nText = some (.str (ofL TT) t₂₂) := by rw [hm₂₇]; exact (if_neg (by decide)).trans d_text
            clear hm₂₇ c₂₇'
            generalize s₂₅.toks = tn at f_n
            refine wpAny_execs_cons ?_
            refine wpAny_Assign_Name ?_
            refine Subscript_ (List_ ?_)
            refine spliced_more (c_strK c₂₇ fun y1 w1 b1 r1 => ?_)
            refine spliced_more (c_strK b1 fun y2 w2 b2 r2 => ?_)
            refine spliced_more (c_strK b2 fun y3 w3 b3 r3 => ?_)
            refine spliced_more (c_strK b3 fun y4 w4 b4 r4 => ?_)
            refine spliced_more (c_strK b4 fun y5 w5 b5 r5 => ?_)
            refine spliced_more (c_strK b5 fun y6 w6 b6 r6 => ?_)
            refine spliced_none ?_
            refine c_listK (vs := [.str (ofL [44, 32]) w1, .str (ofL [59, 32]) w2, .str (ofL [59, 44, 32]) w3, .str (ofL [9, 59, 44, 32]) w4, .str (ofL [32, 59]) w5, .str (ofL [59, 9]) w6]) b6 (fun y7 sl2 b7 hsl2 r7 => ?_) (by show (6 : Nat) ≤ 1000; decide)
            refine wpAny_BinOp (c_name b7 f_n (c_intK b7 fun y8 w8 b8 r8 => PyProof.Rows.mod_int (by decide) ?_))
            have b9 := b8.ext (s' := { y8 with toks := y8.toks + 1 }) (fun _ _ e => e) rfl rfl
            have fm6 : 0 ≤ nn.fmod 6 ∧ nn.fmod 6 < 6 := ⟨Int.fmod_nonneg_of_pos nn (by decide), Int.fmod_lt_of_pos nn (by decide)⟩
            obtain ⟨sgs, tsp, hsg4, hsgs⟩ : ∃ sgs tsp, sgs.length ≤ 4 ∧ (#[Value.str (ofL [44, 32]) w1, .str (ofL [59, 32]) w2, .str (ofL [59, 44, 32]) w3, .str (ofL [9, 59, 44, 32]) w4, .str (ofL [32, 59]) w5, .str (ofL [59, 9]) w6] : Array Value)[(nn.fmod 6).toNat]? = some (.str (ofL sgs) tsp) := by
              obtain ⟨h1, h2⟩ := fm6
              generalize nn.fmod 6 = z at h1 h2
              obtain rfl | rfl | rfl | rfl | rfl | rfl : z = 0 ∨ z = 1 ∨ z = 2 ∨ z = 3 ∨ z = 4 ∨ z = 5 := by (exact ol59 h1 h2)
              · exact ⟨_, w1, by decide, rfl⟩
              · exact ⟨_, w2, by decide, rfl⟩
              · exact ⟨_, w3, by decide, rfl⟩
              · exact ⟨_, w4, by decide, rfl⟩
              · exact ⟨_, w5, by decide, rfl⟩
              · exact ⟨_, w6, by decide, rfl⟩
            refine list_item (n := 0) (b9.get (.head _)) fm6.1 (by omega) hsgs ?_
            have b10 := b9.drop (news' := [(198, tabObj #[]), (205, tabObj #[])]) fun p hp => .tail _ hp
            refine c_storeK b10 fun s₃₂ c₃₂' k₃₂ => ?_
            obtain ⟨m₃₂, hm₃₂, c₃₂⟩ := c₃₂'.named
            have g_n : m₃₂ nN = some (.int nn tn) := by rw [hm₃₂]; exact (if_neg (by decide)).trans f_n
            have g_text : m₃₂ nText = some (.str (ofL TT) t₂₂) := by rw [hm₃₂]; exact (if_neg (by decide)).trans f_text
            have g_sign : m₃₂ nSign = some (.str (ofL sgs) tsp) := by rw [hm₃₂]; exact if_pos rfl
            clear hm₃₂ c₃₂' hsgs
            obtain ⟨Wn, hWn, hW2, hW8⟩ : ∃ k : Nat, 3 + (nn.fdiv 6).fmod 6 = (k : Int) ∧ 3 ≤ k ∧ k ≤ 8 := by
              have h1 := Int.fmod_nonneg_of_pos (nn.fdiv 6) (show (0 : Int) < 6 by decide)
              have h2 := Int.fmod_lt_of_pos (nn.fdiv 6) (show (0 : Int) < 6 by decide)
              exact ⟨(3 + (nn.fdiv 6).fmod 6).toNat, by (exact ol61 h1 h2), by (exact ol62 h1 h2), by (exact ol63 h1 h2)⟩
            refine wpAny_execs_cons ?_
            refine wpAny_Assign_Name ?_
            refine wpAny_BinOp (c_intK c₃₂ fun y11 w11 b11 r11 => ?_)
            refine wpAny_BinOp ?_
            refine wpAny_BinOp (c_name b11 g_n (c_intK b11 fun y12 w12 b12 r12 => PyProof.Rows.floordiv_int (by decide) ?_))
            have b13 := b12.ext (s' := { y12 with toks := y12.toks + 1 }) (fun _ _ e => e) rfl rfl
            refine c_intK b13 fun y14 w14 b14 r14 => PyProof.Rows.mod_int (by decide) ?_
            have b15 := b14.ext (s' := { y14 with toks := y14.toks + 1 }) (fun _ _ e => e) rfl rfl
            refine PyProof.Rows.add_int ?_
            have b16 := b15.ext (s' := { y14 with toks := y14.toks + 1 + 1 }) (fun _ _ e => e) rfl rfl
            rw [hWn]
            refine c_storeK b16 fun s₃₉ c₃₉' k₃₉ => ?_
            obtain ⟨m₃₉, hm₃₉, c₃₉⟩ := c₃₉'.named
            have a_n : m₃₉ nN = some (.int nn tn) := by rw [hm₃₉]; exact (if_neg (by decide)).trans g_n
            have a_text : m₃₉ nText = some (.str (ofL TT) t₂₂) := by rw [hm₃₉]; exact (if_neg (by decide)).trans g_text
            have a_sign : m₃₉ nSign = some (.str (ofL sgs) tsp) := by rw [hm₃₉]; exact (if_neg (by decide)).trans g_sign
            obtain ⟨tw, a_width⟩ : ∃ tw, m₃₉ nWidth = some (.int (Wn : Nat) tw) := ⟨_, by rw [hm₃₉]; exact if_pos rfl⟩
            clear hm₃₉ c₃₉'
            obtain ⟨hn', hhn, hh3⟩ : ∃ k : Nat, (nn.fdiv 36).fmod 4 = (k : Int) ∧ k ≤ 3 := by
              have h1 := Int.fmod_nonneg_of_pos (nn.fdiv 36) (show (0 : Int) < 4 by decide)
              have h2 := Int.fmod_lt_of_pos (nn.fdiv 36) (show (0 : Int) < 4 by decide)
              exact ⟨((nn.fdiv 36).fmod 4).toNat, by (exact om289 h1 h2), by (exact om290 h1 h2)⟩
            refine wpAny_execs_cons ?_
            refine wpAny_Assign_Name ?_
            refine wpAny_BinOp ?_
            refine wpAny_BinOp (c_name c₃₉ a_n (c_intK c₃₉ fun s₄₀ t₄₀ c₄₀ e₄₀ => PyProof.Rows.floordiv_int (by decide) ?_))
            have c₄₁ := c₄₀.ext (s' := { s₄₀ with toks := s₄₀.toks + 1 }) (fun _ _ e => e) rfl rfl
            refine c_intK c₄₁ fun s₄₂ t₄₂ c₄₂ e₄₂ => PyProof.Rows.mod_int (by decide) ?_
            have c₄₃ := c₄₂.ext (s' := { s₄₂ with toks := s₄₂.toks + 1 }) (fun _ _ e => e) rfl rfl
            rw [hhn]
            refine c_storeK c₄₃ fun s₄₄ c₄₄' k₄₄ => ?_
            obtain ⟨m₄₄, hm₄₄, c₄₄⟩ := c₄₄'.named
            have b_n : m₄₄ nN = some (.int nn tn) := by rw [hm₄₄]; exact (if_neg (by decide)).trans a_n
            have b_text : m₄₄ nText = some (.str (ofL TT) t₂₂) := by rw [hm₄₄]; exact (if_neg (by decide)).trans a_text
            have b_width : m₄₄ nWidth = some (.int (Wn : Nat) tw) := by rw [hm₄₄]; exact (if_neg (by decide)).trans a_width
            have b_sign : m₄₄ nSign = some (.str (ofL sgs) tsp) := by rw [hm₄₄]; exact (if_neg (by decide)).trans a_sign
            obtain ⟨th, b_head⟩ : ∃ th, m₄₄ nHead = some (.int (hn' : Nat) th) := ⟨_, by rw [hm₄₄]; exact if_pos rfl⟩
            clear hm₄₄ c₄₄'
            refine wpAny_execs_cons ?_
            refine wpAny_Assign_Name ?_
            refine Call_ ?_
            refine c_glob c₄₄ (v := .ref 94) ?_ ?_
            · kernel_rfl
            refine callWith_K (K := KK w) c₄₄.X (by kernel_rfl) ?_
            refine spliced_more (c_name c₄₄ b_head (spliced_more (c_name c₄₄ b_width (spliced_more (c_strK c₄₄ fun s₄₅ t₄₅ c₄₅ e₄₅ => spliced_more (c_name c₄₅ b_sign (spliced_none ?_)))))))
            refine ⟨c₄₅.X, ?_⟩
            refine fmake_ok c₄₅.ok r.deep.le (by decide) fun s₄₆ f fd ls a d n O₄₆ S₄₆ F₄₆ Y₄₆ Ls₄₆ gf gfd gls ga gd => ?_
            have nb : ∀ b : Addr, (s₄₅.heap.objs.size : Nat) ≤ b → b ≠ L ∧ g.get? b = none ∧ (221 : Nat) ≤ b := fun b hb => by
              have hl : (L : Nat) < b := Nat.lt_of_lt_of_le (hLL ▸ c₄₅.lt) hb
              refine ⟨Nat.ne_of_gt hl, ?_, Nat.le_trans big (Nat.le_of_lt hl)⟩
              cases e : g.get? b with
              | none => rfl
              | some o => exact absurd (Heap.lt_size (c₄₅.base e)) (Nat.not_lt.mpr hb)
            obtain ⟨nf, gf0, lf⟩ := nb f gf
            obtain ⟨nfd, gfd0, lfd⟩ := nb fd gfd
            obtain ⟨nls, gls0, lls⟩ := nb ls gls
            obtain ⟨na, ga0, la⟩ := nb a ga
            obtain ⟨nd, gd0, ld⟩ := nb d gd
            have n213 : ∀ b : Addr, (221 : Nat) ≤ b → (198 : Addr) ≠ b ∧ (205 : Addr) ≠ b := fun b hb =>
              ⟨fun q => absurd hb (by rw [← q]; decide), fun q => absurd hb (by rw [← q]; decide)⟩
            have c₄₆ := c₄₅.call0 S₄₆ O₄₆
            refine c_storeK c₄₆ fun s₄₇ c₄₇' k₄₇ => ?_
            obtain ⟨m₄₇, hm₄₇, c₄₇⟩ := c₄₇'.named
            have d_n : m₄₇ nN = some (.int nn tn) := by rw [hm₄₇]; exact (if_neg (by decide)).trans b_n
            have d_text : m₄₇ nText = some (.str (ofL TT) t₂₂) := by rw [hm₄₇]; exact (if_neg (by decide)).trans b_text
            have d_width : m₄₇ nWidth = some (.int (Wn : Nat) tw) := by rw [hm₄₇]; exact (if_neg (by decide)).trans b_width
            have d_sign : m₄₇ nSign = some (.str (ofL sgs) tsp) := by rw [hm₄₇]; exact (if_neg (by decide)).trans b_sign
            have d_head : m₄₇ nHead = some (.int (hn' : Nat) th) := by rw [hm₄₇]; exact (if_neg (by decide)).trans b_head
            have d_fm : m₄₇ nFormatter = some (.ref f) := by rw [hm₄₇]; exact if_pos rfl
            clear hm₄₇ c₄₇'
            have F₄₇ := F₄₆.keepK (h' := s₄₇.heap) fun b o hb e => k₄₇ b o (by rcases hb with rfl | rfl <;> assumption) e
            have Y₄₇ := Y₄₆.keepK (h' := s₄₇.heap) fun b o hb e => k₄₇ b o (by rcases hb with rfl | rfl <;> assumption) e
            have Ls₄₇ := Ls₄₆.keepK (h' := s₄₇.heap) fun o e => k₄₇ _ o nls e
            obtain ⟨_, _, of, p, ofd⟩ := id F₄₇
            obtain ⟨_, _, oa, hh, tk', ti, od⟩ := id Y₄₇
            obtain ⟨_, ll0, nl0, ols, _⟩ := id Ls₄₇
            obtain ⟨dls, dld, fa, fd', fls, da, dd, dl, hda⟩ := fm_ne oa od of ofd ols
            have hTne : TT ≠ [] := by obtain ⟨T0, hT0⟩ := hTe; rw [hT0]; simp
            have hspt : (ofL sgs).cps.toList = sgs := by simp [ofL]
            have hsps : (ofL sgs).cps.size ≤ 1000 := by rw [← Array.length_toList, hspt]; (exact ol64 hsg4)
            have hqT : (qsOf TT).length ≤ TT.length := by unfold qsOf; rw [List.length_map]; exact pairs_length _
            have hqf : flat (qsOf TT) = TT := qs_flat TT
            have lt47 : ∀ {b : Addr} {o : Obj}, s₄₇.heap.get? b = some o → (b : Nat) < s₄₇.heap.objs.size := fun e => Heap.lt_size e
            have w3 : ∀ b ∈ [a, d, ls], b ≠ L ∧ g.get? b = none := fun b hb => by
              simp only [List.mem_cons, List.not_mem_nil, or_false] at hb
              rcases hb with rfl | rfl | rfl
              · exact ⟨na, ga0⟩
              · exact ⟨nd, gd0⟩
              · exact ⟨nls, gls0⟩
            have w4 : ∀ p ∈ [((198 : Addr), tabObj #[]), ((205 : Addr), tabObj #[])], p.1 ∉ [a, d, ls] := fun p hp q => by
              simp only [List.mem_cons, List.not_mem_nil, or_false] at hp q
              rcases hp with rfl | rfl
              · rcases q with q | q | q
                · exact (n213 _ la).1 q
                · exact (n213 _ ld).1 q
                · exact (n213 _ lls).1 q
              · rcases q with q | q | q
                · exact (n213 _ la).2 q
                · exact (n213 _ ld).2 q
                · exact (n213 _ lls).2 q
            refine wpAny_execs_cons ?_
            refine wpAny_mono (Q := fun fl s' => match fl with
              | .next => ∃ m its n ps i lines, m nN = some (.int nn tn) ∧ m nText = some (.str (ofL TT) t₂₂) ∧ m nWidth = some (.int (Wn : Nat) tw) ∧ m nSign = some (.str (ofL sgs) tsp) ∧ m nHead = some (.int (hn' : Nat) th) ∧ m nFormatter = some (.ref f) ∧
                  (qsOf TT).foldl (chunk (Wn : Int) sgs) ([], [], (hn' : Int)) = (lines, ps, i) ∧ FmAt s'.heap f fd ls a (Wn : Int) (Str.ofString "\t") (ofL sgs) ∧ AccAt s'.heap a d its n i ∧ PairsAt s'.heap its ps ∧ LinesAt s'.heap ls lines ∧ Cx w g [198, 205] s L m [(198, tabObj #[]), (205, tabObj #[])] s'
              | _ => False) ?_ (fun fl s' hq => ?_) fun _ _ e => e
            · refine wpAny_mid fun P' hP' => ?_
              refine wpAny_For ?_
              refine Call_ ?_
              refine c_glob c₄₇ (v := .ref 196) ?_ ?_
              · kernel_rfl
              refine callWith_K (K := KK w) c₄₇.X (by kernel_rfl) ?_
              refine spliced_more (c_name c₄₇ d_text (spliced_none ?_))
              refine ⟨c₄₇.X, ?_⟩
              refine pieces_ok (T := TT) c₄₇.ok r.deep.le hTne (by (exact ol65 hTlen)) fun s₄₈ l rs O₄₈ S₄₈ il hl PA => ?_
              have c₄₈ := c₄₇.call0 S₄₈ O₄₈
              have up48 : ∀ b o, (221 : Nat) ≤ b → s₄₇.heap.get? b = some o → s₄₈.heap.get? b = some o := fun b o hb e => S₄₈.keep b o (fun h => nomatch h) (not_tab hb) e
              refine wpAny_pyIter_list il ?_
              have hlt48 : (l : Nat) < s₄₈.heap.objs.size := by obtain ⟨o, e, _⟩ := il; exact Heap.lt_size e
              have hLl : (L : Nat) < l := Nat.lt_of_lt_of_le (hLL ▸ c₄₇.lt) hl
              have hL48 : (L : Nat) < s₄₈.heap.objs.size := Nat.lt_trans hLl hlt48
              have c₄₉ := c₄₈.ext (s' := { s₄₈ with heap := s₄₈.heap.push { cls := .type "list_iterator", data := .fields #[.ref l, .int 0 0] } }) (fun _ _ e => Heap.get?_push_of_some _ e) rfl rfl
              obtain ⟨hI1, hI2, hI3, hI4⟩ := c₄₈.fresh (Nat.le_refl _)
              have hit0 : Heap.IsListIter (s₄₈.heap.push { cls := .type "list_iterator", data := .fields #[.ref l, .int 0 0] }) s₄₈.heap.objs.size l 0 := ⟨_, Heap.get?_push_size _ rfl, rfl, rfl⟩
              have push : ∀ b o, s₄₈.heap.get? b = some o → (s₄₈.heap.push { cls := .type "list_iterator", data := .fields #[.ref l, .int 0 0] }).get? b = some o := fun _ _ e => Heap.get?_push_of_some _ e
              have PA' : PcsAt (fun b => s₄₇.heap.objs.size ≤ b ∧ b ≠ l ∧ b < s₄₈.heap.objs.size) s₄₈.heap rs (pairs TT) := PA.mono fun b hb ⟨o, e⟩ => ⟨hb.1, hb.2, Heap.lt_size e⟩
              have sz48 : ∀ {b : Addr} {o : Obj}, s₄₇.heap.get? b = some o → (221 : Nat) ≤ b → b ≠ s₄₈.heap.objs.size := fun e hb => Nat.ne_of_lt (Heap.lt_size (up48 _ _ hb e))
              have fI : f ≠ s₄₈.heap.objs.size := sz48 of lf
              have fdI : fd ≠ s₄₈.heap.objs.size := sz48 ofd lfd
              have aI : a ≠ s₄₈.heap.objs.size := sz48 oa la
              have dI : d ≠ s₄₈.heap.objs.size := sz48 od ld
              have lsI : ls ≠ s₄₈.heap.objs.size := sz48 ols lls
              have apart : ∀ {b : Addr}, (s₄₇.heap.objs.size : Nat) ≤ b → b ∉ [a, d, ls] := fun hb q => by
                simp only [List.mem_cons, List.not_mem_nil, or_false] at q
                rcases q with rfl | rfl | rfl
                · exact absurd (lt47 oa) (Nat.not_lt.mpr hb)
                · exact absurd (lt47 od) (Nat.not_lt.mpr hb)
                · exact absurd (lt47 ols) (Nat.not_lt.mpr hb)
              have Iapart : (s₄₇.heap.objs.size : Nat) ≤ s₄₈.heap.objs.size := S₄₈.grow
              have F₄₈ := F₄₇.keepK (h' := s₄₈.heap) fun b o hb e => up48 b o (by rcases hb with rfl | rfl <;> assumption) e
              have Y₄₈ := Y₄₇.keepK (h' := s₄₈.heap) fun b o hb e => up48 b o (by rcases hb with rfl | rfl <;> assumption) e
              have Ls₄₈ := Ls₄₇.keepK (h' := s₄₈.heap) fun o e => up48 _ o lls e
              have hrs : rs.length = (qsOf TT).length := by rw [PA.1]; unfold qsOf; simp
              generalize hI : s₄₈.heap.objs.size = I at *
              refine r_forL (items := rs.toArray) (l := l) r.deep.hd (fun j v e => ?_) (Nat.ne_of_lt hlt48) hI1 hI2 hI3 (Nat.ne_of_lt hLl)
                (fun j m news h => news = [((198 : Addr), tabObj #[]), ((205 : Addr), tabObj #[])] ∧ (m nN = some (.int nn tn) ∧ m nText = some (.str (ofL TT) t₂₂) ∧ m nWidth = some (.int (Wn : Nat) tw) ∧ m nSign = some (.str (ofL sgs) tsp) ∧ m nHead = some (.int (hn' : Nat) th) ∧ m nFormatter = some (.ref f)) ∧
                  PcsAt (fun b => s₄₇.heap.objs.size ≤ b ∧ b ≠ l ∧ b < I) h rs (pairs TT) ∧ FmAt h f fd ls a (Wn : Int) (Str.ofString "\t") (ofL sgs) ∧ ∃ its n ps i lines, ((qsOf TT).take j).foldl (chunk (Wn : Int) sgs) ([], [], (hn' : Int)) = (lines, ps, i) ∧ AccAt h a d its n i ∧ PairsAt h its ps ∧ LinesAt h ls lines)
                ?_ ?_ ?_ c₄₉ ⟨rfl, ⟨d_n, d_text, d_width, d_sign, d_head, d_fm⟩, PA'.keep fun b o _ e => push b o e, F₄₈.keepK fun b o _ e => push b o e, _, _, _, _, _, rfl, Y₄₈.keepK fun b o _ e => push b o e, ⟨rfl, fun j q hq => by simp at hq⟩, Ls₄₈.keepK fun o e => push _ o e⟩ hI4 ⟨hit0, by obtain ⟨o, e, q⟩ := il; exact ⟨o, push _ _ e, q⟩⟩
              · have e' : rs[j]? = some v := by rw [← List.getElem?_toArray]; exact e
                have hj : j < (pairs TT).length := by rw [← PA.1]; exact (List.getElem?_eq_some_iff.mp e').1
                obtain ⟨R, _, _, e1, _⟩ := PA.2 j _ (List.getElem?_eq_getElem hj)
                rw [e'] at e1; cases e1; exact ⟨_, rfl⟩
              · rintro j m news h h' i ⟨rfl, nm, PA₁, F₁, its, n, ps, i', lines, hf, Y₁, P₁, Ls₁⟩ hit k
                refine ⟨rfl, nm, PA₁.keep fun b o hb e => k b o (Nat.ne_of_lt hb.2.2) e, F₁.keepK fun b o hb e => k b o (by rcases hb with rfl | rfl <;> assumption) e, its, n, ps, i', lines, hf, Y₁.keepK fun b o hb e => k b o (by rcases hb with rfl | rfl <;> assumption) e, P₁.keepT fun T vs hT e => k T _ (fun q => by
                  obtain ⟨o, eo, hc, hd⟩ := hit
                  rw [q, eo] at e; cases e; cases hd) e, Ls₁.keepK fun o e => k _ o lsI e⟩
              · rintro j v m news s₅₀ hj ⟨rfl, ⟨n_n, n_text, n_width, n_sign, n_head, n_fm⟩, PA₁, F₁, its, n, ps, i, lines, hf, Y₁, P₁, Ls₁⟩ c₅₀ hnI hv hit il'
                have hjq : j < (qsOf TT).length := by rw [List.size_toArray, hrs] at hj; exact hj
                have hjp : j < (pairs TT).length := by unfold qsOf at hjq; simpa using hjq
                obtain ⟨p, hp⟩ : ∃ p, (pairs TT)[j]? = some p := ⟨_, List.getElem?_eq_getElem hjp⟩
                obtain ⟨R, t1, t2, e1, okR, IL⟩ := PA₁.2 j p hp
                have hvR : v = .ref R := by
                  rw [← List.getElem?_toArray, hv] at e1
                  cases e1; rfl
                subst hvR
                have hq : (qsOf TT)[j]? = some (ofL p.1, ofL p.2) := by unfold qsOf; rw [List.getElem?_map, hp]; rfl
                refine list_assign c₅₀ r.deep.hd IL fun s₅₁ c₅₁' k₅₁ => ?_
                obtain ⟨m₅₁, hm₅₁, c₅₁⟩ := c₅₁'.named
                have h_white : m₅₁ nWhite = some (.str (ofL p.1) t1) := by rw [hm₅₁]; exact (if_neg (by decide)).trans (if_pos rfl)
                have h_part : m₅₁ nPart = some (.str (ofL p.2) t2) := by rw [hm₅₁]; exact if_pos rfl
                have h_n : m₅₁ nN = some (.int nn tn) := by rw [hm₅₁]; exact (if_neg (by decide)).trans ((if_neg (by decide)).trans n_n)
                have h_text : m₅₁ nText = some (.str (ofL TT) t₂₂) := by rw [hm₅₁]; exact (if_neg (by decide)).trans ((if_neg (by decide)).trans n_text)
                have h_width : m₅₁ nWidth = some (.int (Wn : Nat) tw) := by rw [hm₅₁]; exact (if_neg (by decide)).trans ((if_neg (by decide)).trans n_width)
                have h_sign : m₅₁ nSign = some (.str (ofL sgs) tsp) := by rw [hm₅₁]; exact (if_neg (by decide)).trans ((if_neg (by decide)).trans n_sign)
                have h_head : m₅₁ nHead = some (.int (hn' : Nat) th) := by rw [hm₅₁]; exact (if_neg (by decide)).trans ((if_neg (by decide)).trans n_head)
                have h_fm : m₅₁ nFormatter = some (.ref f) := by rw [hm₅₁]; exact (if_neg (by decide)).trans ((if_neg (by decide)).trans n_fm)
                clear hm₅₁ c₅₁'
                have L47 : (L : Nat) < s₄₇.heap.objs.size := hLL ▸ c₄₇.lt
                have big47 : (221 : Nat) ≤ s₄₇.heap.objs.size := Nat.le_trans big (Nat.le_of_lt L47)
                have F₂ := F₁.keepK (h' := s₅₁.heap) fun b o hb e => k₅₁ b o (by rcases hb with rfl | rfl <;> assumption) e
                have Y₂ := Y₁.keepK (h' := s₅₁.heap) fun b o hb e => k₅₁ b o (by rcases hb with rfl | rfl <;> assumption) e
                have Ls₂ := Ls₁.keepK (h' := s₅₁.heap) fun o e => k₅₁ _ o nls e
                have P₂ := P₁.keepT (h' := s₅₁.heap) fun T vs hT e => k₅₁ T _ (fun q => by
                  obtain ⟨o, es, ep, eo, hd, _⟩ := c₅₀.F.ns
                  rw [q, eo] at e; cases e; cases hd) e
                have PA₂ := PA₁.keep (h' := s₅₁.heap) fun b o hb e => k₅₁ b o (Nat.ne_of_gt (Nat.lt_of_lt_of_le L47 hb.1)) e
                obtain ⟨_, _, of2, p2, ofd2⟩ := id F₂
                obtain ⟨b1, b2, b3, b4, b5, _⟩ := foldS_extra hf
                have hqs : qsOf TT = (qsOf TT).take j ++ (ofL p.1, ofL p.2) :: (qsOf TT).drop (j + 1) := by
                  have e2 := List.getElem?_eq_getElem hjq
                  rw [hq] at e2
                  have e3 := Option.some.inj e2
                  rw [e3, ← List.drop_eq_getElem_cons hjq, List.take_append_drop]
                have hfl := congrArg List.length (congrArg flat hqs)
                rw [hqf, flat_append, List.length_append, flat_cons, List.length_append] at hfl
                have htl : ((qsOf TT).take j).length ≤ j := by rw [List.length_take]; exact Nat.min_le_left _ _
                have hmem : (ofL p.1, ofL p.2) ∈ qsOf TT := List.mem_of_getElem? hq
                have hne := parts_ne hTe
                have hz0 : linesLen [] + (flat []).length = 0 := rfl
                refine wpAny_execs_cons ?_
                refine wpAny_Expr ?_
                refine MethodCall_ ?_
                refine c_name c₅₁ h_fm ?_
                refine fm_meth (q := 91) c₅₁.X (fmI of2 ofd2) ?_
                refine callWith_K (K := KK w) c₅₁.X (by kernel_rfl) ?_
                refine spliced_more (c_name c₅₁ h_white (spliced_more (c_name c₅₁ h_part (spliced_none ?_))))
                refine ⟨c₅₁.X, ?_⟩
                refine append_ok (f0 := ofL p.1) (p0 := ofL p.2) c₅₁.ok r.deep.le F₂ Y₂ P₂ Ls₂ ?_ ?_ ?_ ?_ (fun x hx => ?_) fun s₅₂ its' n' ps' i' lines' hch O₅₂ S₅₂ Y₅₂ P₅₂ Ls₅₂ _ => ?_
                · rcases b4 with rfl | rfl <;> lia
                · rw [sizes_flat, flat_append, List.length_append, flat_cons, List.length_append]
                  rw [show flat ([] : List (Str × Str)) = [] from rfl, List.length_nil]
                  (exact ol68 hTlen hqT hrs hjq b1 hfl htl hz0)
                · simp only [List.length_nil] at b3; (exact ol69 hTlen hqT hrs hjq b3 hfl htl)
                · simp only [List.length_nil] at b2; (exact ol69 hTlen hqT hrs hjq b2 hfl htl)
                · rcases List.mem_append.mp hx with q | q
                  · exact b5 (fun y hy => hne y (List.mem_of_mem_take (by simpa using hy))) x q
                  · rw [List.mem_singleton] at q; subst q; exact hne _ hmem
                have c₅₂ := c₅₁.callUp S₅₂ O₅₂ w3 w4
                rw [hspt] at hch
                have keepHi : ∀ b o, (s₄₇.heap.objs.size : Nat) ≤ b → s₅₁.heap.get? b = some o → s₅₂.heap.get? b = some o := fun b o hb e => S₅₂.keep b o (apart hb) (not_tab (Nat.le_trans big47 hb)) e
                refine wpAny_execs_nil ?_
                refine ⟨m₅₁, _, ⟨rfl, ⟨h_n, h_text, h_width, h_sign, h_head, h_fm⟩, PA₂.keep fun b o hb e => keepHi b o hb.1 e, F₂.keepK fun b o hb e => S₅₂.keep b o (by rcases hb with rfl | rfl <;> simp [fa, fd', fls, da, dd, dl]) (by rcases hb with rfl | rfl; exact not_tab lf; exact not_tab lfd) e, its', n', ps', i', lines', ?_, Y₅₂, P₅₂, Ls₅₂⟩, c₅₂, hnI, fun b hb o e => ?_⟩
                · rw [List.take_succ, hq, Option.toList_some, List.foldl_append, hf]
                  exact hch
                · rcases hb with rfl | rfl
                  · exact keepHi _ o Iapart (k₅₁ _ o (Ne.symm hI3) e)
                  · exact keepHi _ o hl (k₅₁ _ o (Nat.ne_of_gt hLl) e)
              · rintro m news s₅₀ ⟨rfl, ⟨n_n, n_text, n_width, n_sign, n_head, n_fm⟩, PA₁, F₁, its, n, ps, i, lines, hf, Y₁, P₁, Ls₁⟩ c₅₀
                rw [List.size_toArray, hrs, List.take_length] at hf
                refine wpAny_execs_nil ?_
                exact hP' _ _ ⟨m, its, n, ps, i, lines, n_n, n_text, n_width, n_sign, n_head, n_fm, hf, F₁, Y₁, P₁, Ls₁, c₅₀⟩
            · match fl, hq with
              | .next, hq =>
                obtain ⟨m₄₉, its', n', ps', i', lines', d_n, d_text, d_width, d_sign, d_head, d_fm, he, F₄₉, Y₄₉, P₄₉, Ls₄₉, c₄₉⟩ := hq
                obtain ⟨p1, p2, p3, p4, p5, p6, p7, p8, p9, p10⟩ := pure_law2 (T := TT) (sgs := sgs) (W := Wn) (hd := hn') hTe ⟨hW2, hW8⟩ hh3 hTlen he
                obtain ⟨_, _, of₉, p₉, ofd₉⟩ := id F₄₉
                refine wpAny_execs_cons ?_
                refine wpAny_Assign_Name ?_
                refine MethodCall_ ?_
                refine c_name c₄₉ d_fm ?_
                refine fm_meth (q := 42) c₄₉.X (fmI of₉ ofd₉) ?_
                refine callWith_K (K := KK w) c₄₉.X (by kernel_rfl) ?_
                refine spliced_more (c_strK c₄₉ fun s₅₀ t₅₀ c₅₀ e₅₀ => spliced_none ?_)
                refine ⟨c₅₀.X, ?_⟩
                refine str2_ok (sep := ofL [10]) c₅₀.ok r.deep.le (by rw [e₅₀]; exact F₄₉) (by rw [e₅₀]; exact Y₄₉) (by rw [e₅₀]; exact P₄₉) (by rw [e₅₀]; exact Ls₄₉) ⟨p2, by (exact ol70 p2 p3)⟩ (by (exact ol71 p8)) (by (exact ol72 p7)) (by (exact ol72 p9)) p4 p5 p6 p10 fun s₅₁ t₅₁ O₅₁ S₅₁ => ?_
                have c₅₁ := c₅₀.callUp S₅₁ O₅₁ w3 w4
                refine c_storeK c₅₁ fun s₅₂ c₅₂' k₅₂ => ?_
                obtain ⟨m₅₂, hm₅₂, c₅₂⟩ := c₅₂'.named
                have e_n : m₅₂ nN = some (.int nn tn) := by rw [hm₅₂]; exact (if_neg (by decide)).trans d_n
                have e_text : m₅₂ nText = some (.str (ofL TT) t₂₂) := by rw [hm₅₂]; exact (if_neg (by decide)).trans d_text
                have e_width : m₅₂ nWidth = some (.int (Wn : Nat) tw) := by rw [hm₅₂]; exact (if_neg (by decide)).trans d_width
                have e_sign : m₅₂ nSign = some (.str (ofL sgs) tsp) := by rw [hm₅₂]; exact (if_neg (by decide)).trans d_sign
                have e_head : m₅₂ nHead = some (.int (hn' : Nat) th) := by rw [hm₅₂]; exact (if_neg (by decide)).trans d_head
                have e_told : m₅₂ nTold = some (.str (Txt.join (ofL [10]) (lines' ++ [ofL (flat ps')])) t₅₁) := by rw [hm₅₂]; exact if_pos rfl
                clear hm₅₂ c₅₂'
                refine wpAny_execs_cons ?_
                refine wpAny_Return_some ?_
                refine wpAny_Compare1 ?_
                refine c_name c₅₂ e_told ?_
                refine MethodCall_ ?_
                refine c_strK c₅₂ fun s₅₃ t₅₃ c₅₃ e₅₃ => ?_
                refine GM.join ?_
                refine callWith_method1 ?_
                refine spliced_more ?_
                refine Call_ ?_
                refine c_glob c₅₃ (v := .ref 215) ?_ ?_
                · kernel_rfl
                refine callWith_K (K := KK w) c₅₃.X (by kernel_rfl) ?_
                refine spliced_more (c_name c₅₃ e_text (spliced_more (c_name c₅₃ e_width (spliced_more (c_name c₅₃ e_head (spliced_more (c_name c₅₃ e_sign (spliced_more ?_))))))))
                refine wpAny_BinOp ?_
                refine wpAny_BinOp (c_name c₅₃ e_n (c_intK c₅₃ fun s₅₄ t₅₄ c₅₄ e₅₄ => PyProof.Rows.floordiv_int (by decide) ?_))
                have c₅₅ := c₅₄.ext (s' := { s₅₄ with toks := s₅₄.toks + 1 }) (fun _ _ e => e) rfl rfl
                refine c_intK c₅₅ fun s₅₆ t₅₆ c₅₆ e₅₆ => PyProof.Rows.mod_int (by decide) ?_
                have c₅₇ := c₅₆.ext (s' := { s₅₆ with toks := s₅₆.toks + 1 }) (fun _ _ e => e) rfl rfl
                refine spliced_none ?_
                refine ⟨c₅₇.X, ?_⟩
                have hz : (nn.fdiv 144).fmod 2 = 0 ∨ (nn.fdiv 144).fmod 2 = 1 := by
                  have h1 := Int.fmod_nonneg_of_pos (nn.fdiv 144) (show (0 : Int) < 2 by decide)
                  have h2 := Int.fmod_lt_of_pos (nn.fdiv 144) (show (0 : Int) < 2 by decide)
                  (exact om296 h1 h2)
                refine rows2_ok (x := ofL TT) (sp := ofL sgs) (W := Wn) (hd := hn') c₅₇.ok r.deep.le hz (c₅₇.get (.head _)) CodesIn.nil (c₅₇.get (.tail _ (.head _))) CodesIn.nil (by rw [ofL_len]; (exact ol65 hTlen)) (by (exact ol73 hW2 hW8)) (by (exact ol74 hW2 hW8 hh3)) hsps fun s₅₈ l ll n O₅₈ S₅₈ el₅₈ l₅₈ hll tb1 tb2 => ?_
                have hll' : ll.map (·.1) = lines' ++ [ofL (flat ps')] := by
                  rw [hll, p1, hspt, ofL_len, show (ofL TT).cps.toList = TT by simp [ofL]]
                refine spliced_none ?_
                refine SC.join (l := ll) ⟨_, el₅₈, rfl, _, rfl⟩ rfl (by rw [hll']; exact p10) fun t₅₉ k₅₉ => ?_
                refine eq_str ?_
                rw [hll', show (Txt.join (ofL [10]) (lines' ++ [ofL (flat ps')]) == Txt.join (Str.ofString "\n") (lines' ++ [ofL (flat ps')])) = true from beq_self_eq_true _]
                have St₅₇ : St [198, 205] s _ := c₅₇.st
                exact h _ ⟨O₅₈.gd, O₅₈.tabs, O₅₈.bare⟩ ⟨fun b o h1 h2 e => S₅₈.keep b o h1 h2 (St₅₇.keep b o h1 h2 e), Nat.le_trans St₅₇.grow S₅₈.grow, S₅₈.os.trans St₅₇.os⟩ tb1 tb2
          · have e2 := congrArg Str.length ex
            rw [str_append_len, ofL_len] at e2
            refine Nat.le_trans (show _ ≤ 55 from ?_) (show (55 : Nat) ≤ sizeLine by decide)
            exact e2 ▸ hTlen
      · intro _; rfl
    · have h1 := slicePick_size_le vs.toArray none (some 5) none
      have h3 : vs.toArray.size = ns.length := by simp [hi.length]
      show (slicePick vs.toArray none (some 5) none).size + 13 ≤ 1000
      (exact om300 hn h1 h3)
  · simp only [List.mem_cons, List.not_mem_nil, or_false] at hx
    subst hx; exact .inl rfl
  · exact cells_hab n q hq
end
end Mine
end

section
open PySem PySem.W PySem.Calls PyProof.Rows
set_option maxRecDepth 100000
set_option maxHeartbeats 8000000
namespace Mine
theorem hd213 (w : World) : codeHdIn (KK w) 202 198 = true := by kernel_rfl
theorem hd220 (w : World) : codeHdIn (KK w) 209 205 = true := by kernel_rfl
theorem hd162 (w : World) : codeHdIn (KK w) 144 140 = true := by kernel_rfl
theorem hd169 (w : World) : codeHdIn (KK w) 151 147 = true := by kernel_rfl
theorem tb213 (w : World) : (hdz.heap_242 w.params).lookup 198 = some (tabObj #[]) := by kernel_rfl
theorem tb220 (w : World) : (hdz.heap_242 w.params).lookup 205 = some (tabObj #[]) := by kernel_rfl
theorem tb162 (w : World) : (hdz.heap_242 w.params).lookup 140 = some (tabObj #[]) := by kernel_rfl
theorem tb169 (w : World) : (hdz.heap_242 w.params).lookup 147 = some (tabObj #[]) := by kernel_rfl
theorem lookup_filter_true {f : Addr → Bool} {a : Addr} {o : Obj} : ∀ {K : List (Addr × Obj)}, (K.filter fun p => f p.1).lookup a = some o → f a = true
  | [], h => by cases h
  | (b, x) :: r, h => by
    cases hf : f b with
    | true =>
      rw [List.filter_cons_of_pos (by exact hf), List.lookup_cons] at h
      cases hb : a == b with
      | true => rw [eq_of_beq hb]; exact hf
      | false => rw [hb] at h; exact lookup_filter_true h
    | false =>
      rw [List.filter_cons_of_neg (by simp [hf])] at h
      exact lookup_filter_true h
theorem lookup_of_filter {f : Addr → Bool} {a : Addr} {o : Obj} : ∀ {K : List (Addr × Obj)}, (K.filter fun p => f p.1).lookup a = some o → K.lookup a = some o
  | [], h => by cases h
  | (b, x) :: r, h => by
    have ha := lookup_filter_true h
    rw [List.lookup_cons]
    cases hf : f b with
    | true =>
      rw [List.filter_cons_of_pos (by exact hf), List.lookup_cons] at h
      cases hb : a == b with
      | true => rw [hb] at h; exact h
      | false => rw [hb] at h; exact lookup_of_filter h
    | false =>
      rw [List.filter_cons_of_neg (by simp [hf])] at h
      cases hb : a == b with
      | true => rw [eq_of_beq hb, hf] at ha; cases ha
      | false => exact lookup_of_filter h
section
variable {w : World} {s s' : Shared}
theorem kk_in (KX : (hdz.heap_242 w.params).In s.heap) : (KK w).In s.heap := fun a o e => KX a o (lookup_of_filter (f := fun b => !(tabA.contains b)) e)
theorem old_end (KX : (hdz.heap_242 w.params).In s.heap) (S : St [198, 205] s s') (O : Ok w s') (t1 : ∃ ps, s'.heap.get? 198 = some (tabObj ps)) (t2 : ∃ ps, s'.heap.get? 205 = some (tabObj ps)) : OldK s.heap s'.heap := by
  have X := kk_in KX
  have tab : ∀ P, P ∈ tabA → (∃ ps, s'.heap.get? P = some (tabObj ps)) ∧ s.heap.get? P = some (tabObj #[]) ∧ isCodeTable s.heap P := fun P hP => by
    simp only [List.mem_cons, List.not_mem_nil, or_false] at hP
    rcases hP with rfl | rfl | rfl | rfl
    · obtain ⟨ps, e, _⟩ := O.tabs 140 (.head _)
      exact ⟨⟨ps, e⟩, KX _ _ (tb162 w), ((codeHd_of_K X (hd162 w)).tab (KX _ _ (tb162 w))).isCodeTable⟩
    · obtain ⟨ps, e, _⟩ := O.tabs 147 (.tail _ (.head _))
      exact ⟨⟨ps, e⟩, KX _ _ (tb169 w), ((codeHd_of_K X (hd169 w)).tab (KX _ _ (tb169 w))).isCodeTable⟩
    · exact ⟨t1, KX _ _ (tb213 w), ((codeHd_of_K X (hd213 w)).tab (KX _ _ (tb213 w))).isCodeTable⟩
    · exact ⟨t2, KX _ _ (tb220 w), ((codeHd_of_K X (hd220 w)).tab (KX _ _ (tb220 w))).isCodeTable⟩
  have keep : ∀ b o, b ∉ tabA → s.heap.get? b = some o → s'.heap.get? b = some o := fun b o hb e => S.keep b o (fun q => hb (by
    simp only [List.mem_cons, List.not_mem_nil, or_false] at q
    rcases q with rfl | rfl
    · exact .tail _ (.tail _ (.head _))
    · exact .tail _ (.tail _ (.tail _ (.head _))))) (fun q => hb (by
    simp only [List.mem_cons, List.not_mem_nil, or_false] at q
    rcases q with rfl | rfl
    · exact .head _
    · exact .tail _ (.head _))) e
  refine ⟨fun b o e => ?_, fun b o e => ?_⟩
  · by_cases hb : b ∈ tabA
    · obtain ⟨⟨ps, e'⟩, e0, hc⟩ := tab b hb
      rw [e] at e0
      cases e0
      exact .inr (.inl ⟨hc, rfl, #[], ps, rfl, by rw [e']; simp⟩)
    · exact .inl (keep b o hb e)
  · by_cases hb : b ∈ tabA
    · obtain ⟨⟨ps, e'⟩, _⟩ := tab b hb
      exact ⟨_, e'⟩
    · exact ⟨o, keep b o hb e⟩
end
end Mine
end

section
open PySem PySem.W PySem.W.X PySem.W.ZRun PySem.Calls PyProof.Rows
set_option maxRecDepth 100000
set_option maxHeartbeats 8000000
namespace Mine
theorem said : OpenLaw.wellSaid PySem.Challenge.rw_ph0144_02 = true := by
  delta OpenLaw.wellSaid
  delta OpenRow.wellSaid
  delta OpenRow.partSaid
  delta looksOpen
  repeat' (with_reducible refine look_both ?_ ?_)
  all_goals decide +kernel
noncomputable def headLooks (s : Shared) : Bool := xlAt hdz.view_461 [] s && recOk (RowW.records PySem.Challenge.rw_ph0144_02.row.toRowW) s
noncomputable def headSees := X.obsZ [0, 1, 2, 3, 4, 5, 6, 7, 8, 9, 10, 11, 12, 13, 14, 15, 16, 17, 18, 19, 20, 21, 29, 30, 31, 32, 33, 34, 35, 36, 37, 38, 39, 40, 41, 42, 43, 44, 45, 46, 47, 48, 49, 50, 51, 52, 53, 54, 55, 56, 57, 58, 59, 60, 61, 62, 63, 64, 65, 66, 67, 68, 69, 70, 71, 72, 73, 74, 75, 76, 77, 78, 79, 80, 81, 82, 83, 84, 85, 86, 87, 88, 89, 90, 91, 92, 93, 94, 95, 96, 99, 102, 107, 108, 109, 110, 111, 112, 113, 114, 115, 116, 117, 118, 119, 120, 121, 122, 123, 124, 125, 126, 127, 128, 129, 130, 131, 132, 133, 134, 135, 136, 137, 138, 139, 140, 141, 142, 143, 144, 145, 146, 147, 148, 149, 150, 151, 152, 153, 154, 155, 156, 157, 158, 159, 160, 161, 162, 163, 164, 165, 166, 167, 168, 169, 170, 171, 172, 173, 174, 175, 176, 177, 178, 179, 180, 183, 184, 185, 186, 187, 188, 189, 190, 191, 192, 193, 194, 195, 196, 197, 198, 199, 200, 201, 202, 203, 204, 205, 206, 207, 208, 209, 210, 211, 212, 213, 214, 215, 216, 217, 218, 219, 220]
theorem headLeft : LeftO PySem.Challenge.rw_ph0144_02.row.toRowW.prog hdz.view_461 [Str.ofString "_Accumulator"] headLooks headSees (X.valZ hdz.heap_242 221 465) 2638 := fun w => by kernel_rfl
end Mine
theorem PySem.Challenge.cw_ph0144_02_holds : PySem.Challenge.rw_ph0144_02.Holds := by
  w_on
  refine holds_law Mine.said fun said => ?_
  refine holds_openX (q := hdz.view_461) (loose := [Str.ofString "_Accumulator"]) (Xt := Mine.headLooks) (XP := XL hdz.view_461 []) (Yf := Mine.headSees) (Ya := X.valZ hdz.heap_242 221 465) (N := 2638) Mine.headLeft (fun s e => xl_of s (Bool.and_eq_true_iff.mp e).1) XL.keeps (by rfl) (by rfl) (by rfl) (fun s e => recFacts_of (Bool.and_eq_true_iff.mp e).2) (by rfl) (by assumption) (by decide +kernel) ⟨rfl, rfl, rfl, rfl, rfl, by decide +kernel⟩ ?hw ?hc
  case hw => w_witness2
  k_fill
  intro w s₀ s₁ mg mb G y fa o pm cd doc dV kV ho hd hcd hD hmg hg args vals as L hpre hlay hrd hwl hlo
  obtain ⟨ZA, ZI, ZN, ZT⟩ := z_facts (K := hdz.heap_242) (fun P => rfl) y
  have KX : (hdz.heap_242 w.params).In s₁.heap := InK.keeps w _ _ ZI (Laid.keeps L)
  refine Ground.open G ?_
  intro T B D TE TW
  clear y ZA
  wrow_args hpre hlay hrd hwl hlo
  have e237 : nsIn (hdz.heap_242 w.params) mainGlobals "law" = some (some (.ref 220)) := by kernel_rfl
  have hfa : fa = 220 := by
    have h1 := mg_of KX T.g e237
    have h2 := hmg.symm.trans h1
    cases h2
    rfl
  subst hfa
  rename_i hI hIL _ _
  have O₁ : Mine.Ok w s₁ := ⟨⟨Mine.kk_in KX, _, _, _, _, topRead_of T⟩, fun P hP => ⟨#[], by
    simp only [List.mem_cons, List.not_mem_nil, or_false] at hP
    rcases hP with rfl | rfl
    · exact KX _ _ (Mine.tb162 w)
    · exact KX _ _ (Mine.tb169 w), trivial⟩, by rw [hg]; exact AllBare.empty⟩
  have r₁ : Mine.Rm callerA 16 := ⟨rfl, by decide, by decide⟩
  refine wpAny_mono (Mine.law_ok (A := callerA) (E := fun _ _ => False) O₁ r₁ (KX _ _ (Mine.tb213 w)) (KX _ _ (Mine.tb220 w)) (by assumption) hI (by omega) (Q := fun v s' => GoodWG PySem.Challenge.rw_ph0144_02.row.claim (classAt s₀.heap) (ExcName.means s₀.heap) _ s₁ (.ok (.ret v)) s') fun s' O' S' t1 t2 => ?_) (fun _ _ h => h) (fun _ _ h => h.elim)
  refine ⟨.inl ⟨.bool true, _, [], rfl, fun _ => rfl, ReadsW.bool true, ?_, fun _ => ⟨List.nodup_nil, fun _ hm => (nomatch hm)⟩⟩, Mine.old_end KX S' O' t1 t2, S'.os, O'.bare⟩
  wrow_post
end
